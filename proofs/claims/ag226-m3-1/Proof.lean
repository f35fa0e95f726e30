import JvmDerived
import JvmDerived.Pilot.@@N@@Statement
import JvmDerived.Pilot.@@N@@Code
set_option linter.unusedVariables false
set_option linter.unusedSimpArgs false
namespace Own
open Jvm Jvm.ClassFile Sem Op Lib Jvm.Stand Jvm.Free Jvm.LawKit Jvm.RoadKit
def Fin (p : Program) (e : Env) (below : List Frame) (G : State) (Q : Outcome → State → Prop) : Prop :=
  ∃ s₂ o, Steps p.tables e below G s₂ ∧ s₂.status = .running ∧ Ended s₂ below o ∧ Q o s₂
def Post (s : State) (K : Option Value → Heap → List Loc → Prop) (cc ss : Nat) (o : Outcome) (U : State) : Prop :=
  ∃ v L, o = .returned v ∧ K v U.heap L ∧ FrameEnd s o U L cc ss
theorem go {p : Program} {e : Env} {below : List Frame} {G G' : State} {Q : Outcome → State → Prop} (h : ∀ t, Steps p.tables e below G' t → Steps p.tables e below G t) (k : Fin p e below G' Q) : Fin p e below G Q := by
  obtain ⟨s₂, o, h1, h2⟩ := k
  exact ⟨s₂, o, h _ h1, h2⟩
theorem start {p : Program} {e : Env} {below : List Frame} {T : State} {g g' : JFrame} {Q : Outcome → State → Prop} (q : g = g') (k : Fin p e below (T.setTop g') Q) : Fin p e below (T.setTop g) Q := q ▸ k
theorem clamp_lt {j z : Int32} {n : Nat} (hj : ¬ j < 0 ∧ j < z) (hz : z.toNatClampNeg = n) : j.toNatClampNeg < n := by
  subst hz
  have h1 := hj.1; have h2 := hj.2
  rw [Int32.lt_iff_toInt_lt] at h1 h2
  have h0 : (0 : Int32).toInt = 0 := by decide
  rw [h0] at h1
  show j.toInt.toNat < z.toInt.toNat
  omega
section A
variable {p : Program} {l : Launch} {e : Env} {R : Room} {s : State} {m : MethodId} {args : Array Value} {below : List Frame} {meth : Method} {c : Code} {T : State} {locs : List Loc} {cells slots : Nat}
theorem retAny (X : Stand p l e R s m args below meth c T locs cells slots) {v : Option Value} (hlk : meth.locks = false) (hv : meth.sig.returnType = none → v = none) {g : JFrame}
    (hstep : ∀ fs, (∀ (f : JFrame) (acts : List Action), f.method = m → f.locked = none → f.entered = [] → (doReturn e (T.setTop f) acts v).1 = T.setFrames fs) → Steps p.tables e below (T.setTop g) (T.setFrames fs))
    {K : Option Value → Heap → List Loc → Prop} {cc ss : Nat} (hc : cells ≤ cc) (hs : slots ≤ ss) (hk : K v T.heap locs) : Fin p e below (T.setTop g) (Post s K cc ss) := by
  obtain ⟨fs, hr, hrun, hended, hW, hsame⟩ := X.leave (v := v) hv hlk
  exact ⟨_, _, hstep fs hr, hrun, hended, _, _, rfl, hk, ⟨_, rfl⟩, hW, hsame.mono hc hs⟩
theorem retI (X : Stand p l e R s m args below meth c T locs cells slots) (hx : p.tables.exec = Jvm.exec) (hlk : meth.locks = false) (hret : meth.sig.returnType = some .int) {pc : Nat} {Ls : Array Slot} {z : Int32} {rest : List Value} (hd : decode c.code pc = .ok (.ireturn, 1))
    {K : Option Value → Heap → List Loc → Prop} {cc ss : Nat} (hc : cells ≤ cc) (hs : slots ≤ ss) (hk : K (some (.int z)) T.heap locs) : Fin p e below (T.setTop (mkF m pc Ls (.int z :: rest))) (Post s K cc ss) := by
  refine retAny X (v := some (.int z)) hlk (fun h => by rw [hret] at h; cases h) (fun fs hl => ?_) hc hs hk
  have hm' : T.vm.method? m = some meth := X.method'
  have hn : narrow .int (.int z) = .int z := rfl
  show Steps p.tables e below (T.setTop { method := m, pc := pc, locals := Ls, stack := _ :: rest, locked := none }) _
  jvm_step X.here [X.here.top, hx, hd, hm', hret, hn]
  first | (intro acts; rw [hl _ acts rfl rfl rfl]) | rw [hl _ _ rfl rfl rfl]
  exact Steps.refl _
theorem retN (X : Stand p l e R s m args below meth c T locs cells slots) (hx : p.tables.exec = Jvm.exec) (hlk : meth.locks = false) {t : FieldType} (hret : meth.sig.returnType = some t) (ht : t = .boolean ∨ t = .byte ∨ t = .char ∨ t = .short) {pc : Nat} {Ls : Array Slot} {z : Int32} {rest : List Value} (hd : decode c.code pc = .ok (.ireturn, 1))
    {K : Option Value → Heap → List Loc → Prop} {cc ss : Nat} (hc : cells ≤ cc) (hs : slots ≤ ss) (hk : K (some (.int (nar t z))) T.heap locs) : Fin p e below (T.setTop (mkF m pc Ls (.int z :: rest))) (Post s K cc ss) :=
  retAny X (v := some (.int (nar t z))) hlk (fun h => by rw [hret] at h; cases h) (fun fs hl => RoadKit.retN X hx hret ht hd hl) hc hs hk
theorem retJ (X : Stand p l e R s m args below meth c T locs cells slots) (hx : p.tables.exec = Jvm.exec) (hlk : meth.locks = false) (hret : meth.sig.returnType = some .long) {pc : Nat} {Ls : Array Slot} {z : Int64} {rest : List Value} (hd : decode c.code pc = .ok (.lreturn, 1))
    {K : Option Value → Heap → List Loc → Prop} {cc ss : Nat} (hc : cells ≤ cc) (hs : slots ≤ ss) (hk : K (some (.long z)) T.heap locs) : Fin p e below (T.setTop (mkF m pc Ls (.long z :: rest))) (Post s K cc ss) := by
  refine retAny X (v := some (.long z)) hlk (fun h => by rw [hret] at h; cases h) (fun fs hl => ?_) hc hs hk
  have hm' : T.vm.method? m = some meth := X.method'
  show Steps p.tables e below (T.setTop { method := m, pc := pc, locals := Ls, stack := _ :: rest, locked := none }) _
  jvm_step X.here [X.here.top, hx, hd, hm', hret, narrow]
  first | (intro acts; rw [hl _ acts rfl rfl rfl]) | rw [hl _ _ rfl rfl rfl]
  exact Steps.refl _
theorem retD (X : Stand p l e R s m args below meth c T locs cells slots) (hx : p.tables.exec = Jvm.exec) (hlk : meth.locks = false) (hret : meth.sig.returnType = some .double) {pc : Nat} {Ls : Array Slot} {z : UInt64} {rest : List Value} (hd : decode c.code pc = .ok (.dreturn, 1))
    {K : Option Value → Heap → List Loc → Prop} {cc ss : Nat} (hc : cells ≤ cc) (hs : slots ≤ ss) (hk : K (some (.double z)) T.heap locs) : Fin p e below (T.setTop (mkF m pc Ls (.double z :: rest))) (Post s K cc ss) := by
  refine retAny X (v := some (.double z)) hlk (fun h => by rw [hret] at h; cases h) (fun fs hl => ?_) hc hs hk
  have hm' : T.vm.method? m = some meth := X.method'
  show Steps p.tables e below (T.setTop { method := m, pc := pc, locals := Ls, stack := _ :: rest, locked := none }) _
  jvm_step X.here [X.here.top, hx, hd, hm', hret, narrow]
  first | (intro acts; rw [hl _ acts rfl rfl rfl]) | rw [hl _ _ rfl rfl rfl]
  exact Steps.refl _
theorem retV (X : Stand p l e R s m args below meth c T locs cells slots) (hx : p.tables.exec = Jvm.exec) (hlk : meth.locks = false) (hret : meth.sig.returnType = none) {pc : Nat} {Ls : Array Slot} (hd : decode c.code pc = .ok (.return_, 1))
    {K : Option Value → Heap → List Loc → Prop} {cc ss : Nat} (hc : cells ≤ cc) (hs : slots ≤ ss) (hk : K none T.heap locs) : Fin p e below (T.setTop (mkF m pc Ls [])) (Post s K cc ss) :=
  retAny X (v := none) hlk (fun _ => rfl) (fun fs hl => X.returnOut hx hret hd hl) hc hs hk
theorem cS {Z : State} {a0 : Array Value} {h : Heap} (X : Stand p l e R s m args below meth c T locs cells slots) (hx : p.tables.exec = Jvm.exec) (hZ : Z.Warmed39 s.vm) {own : String} {index : Nat} {y : MethodName} {bytes : ByteArray} {maxL : Nat} {ret : Option FieldType} {rm : Room} {as' : Array Value} {Q : Option Value → Heap → List Loc → Prop}
    (hown : s.vm.findClass own = some m.cls) (w1 : (Cond.methodLink own index y).before a0 Z = true) (w2 : (Cond.static y).before a0 Z = true) (w3 : (Cond.initialized y.cls).before a0 Z = true) (w4 : (Cond.code y bytes maxL ret).before a0 Z = true)
    (hy : y.cls ≠ "java/lang/invoke/MethodHandle" ∧ y.cls ≠ "java/lang/invoke/VarHandle")
    (hM : MetFree l y (head1 [Cond.code y bytes maxL ret] rm) (fun a U => a = as' ∧ Z.Warmed39 U.vm ∧ U.heap = h) (fun _ _ _ _ _ => True) (fun _ U o U' => ∃ v L, o = .returned v ∧ Q v U'.heap L ∧ FrameEnd U o U' L rm.cells rm.slots))
    (hf : rm.frames + 1 ≤ R.frames) {W : Nat} (hl : W + (maxL + 11) + rm.locals ≤ R.locals) {pc : Nat} {ls : Array Slot} {argsL rest : List Value} (hsize : ls.size = c.maxLocals) (hlen : ∀ sig, parseMethodDescriptor y.desc = some sig → argsL.length = sig.parameters.length)
    (has : argsL.toArray = as') (hW : (rest.map fun v => v.category).sum ≤ W) (hd : decode c.code pc = .ok (.invokestatic index, 3)) (eT : T.heap = h) (hcc : cells + rm.cells ≤ R.cells) (hss : slots + rm.slots ≤ R.slots) {P : Outcome → State → Prop}
    (k : ∀ T' L v, Stand p l e R s m args below meth c T' (locs ++ L) (cells + rm.cells) (slots + rm.slots) → Q v T'.heap L → Fin p e below (T'.setTop (mkF m (pc + 3) ls (v.toList ++ rest))) P) :
    Fin p e below (T.setTop (mkF m pc ls (argsL.reverse ++ rest))) P := by
  obtain ⟨v, _, ⟨T', L', k', n'⟩, -, X', ⟨L, hQ, e1, e2, e3⟩, st⟩ := Jvm.LawKit.callS X hx (y := y) hown (mvT hZ w1) (mvT hZ w2) (mvT hZ w3) (mvT hZ w4) hy (backOf (W := W) hM hZ w4 w3 hf hl) (g := mkF m pc ls (argsL.reverse ++ rest)) rfl hsize (argsL := argsL) (rest := rest) hlen rfl
    (by show 2 * 0 + _ ≤ _; omega) hd (fun _ _ => ⟨has, eT, hcc, hss⟩)
  dsimp only [Pt.U, Pt.locs, Pt.cells, Pt.slots] at X' e1 e2 e3 st hQ
  subst e1 e2 e3
  exact go st (k T' L v X' hQ)
theorem cI {Z : State} {a0 : Array Value} {h : Heap} (X : Stand p l e R s m args below meth c T locs cells slots) (hx : p.tables.exec = Jvm.exec) (hZ : Z.Warmed39 s.vm) {own : String} {index : Nat} {y : MethodName} {bytes : ByteArray} {maxL : Nat} {rm : Room} {as' : Array Value} {Q : Option Value → Heap → List Loc → Prop}
    (hy1 : y.name = "<init>") (hown : s.vm.findClass own = some m.cls) (w1 : (Cond.methodLink own index y).before a0 Z = true) (w2 : (Cond.instanceMethod y).before a0 Z = true) (w3 : (Cond.initialized y.cls).before a0 Z = true) (w4 : (Cond.code y bytes maxL none).before a0 Z = true)
    (hy : y.cls ≠ "java/lang/invoke/MethodHandle" ∧ y.cls ≠ "java/lang/invoke/VarHandle")
    (hM : MetFree l y (head1 [Cond.code y bytes maxL none] rm) (fun a U => a = as' ∧ Z.Warmed39 U.vm ∧ U.heap = h) (fun _ _ _ _ _ => True) (fun _ U o U' => ∃ v L, o = .returned v ∧ Q v U'.heap L ∧ FrameEnd U o U' L rm.cells rm.slots))
    (hf : rm.frames + 1 ≤ R.frames) {W : Nat} (hl : W + (maxL + 11) + rm.locals ≤ R.locals) {pc : Nat} {ls : Array Slot} {a : Addr} {argsL rest : List Value} (hsize : ls.size = c.maxLocals) (hlen : ∀ sig, parseMethodDescriptor y.desc = some sig → argsL.length = sig.parameters.length)
    (has : (Value.ref a :: argsL).toArray = as') (hW : (rest.map fun v => v.category).sum ≤ W) (hd : decode c.code pc = .ok (.invokespecial index, 3)) (eT : T.heap = h) (hcc : cells + rm.cells ≤ R.cells) (hss : slots + rm.slots ≤ R.slots) {P : Outcome → State → Prop}
    (k : ∀ T' L v, Stand p l e R s m args below meth c T' (locs ++ L) (cells + rm.cells) (slots + rm.slots) → Q v T'.heap L → Fin p e below (T'.setTop (mkF m (pc + 3) ls (v.toList ++ rest))) P) :
    Fin p e below (T.setTop (mkF m pc ls (argsL.reverse ++ .ref a :: rest))) P := by
  obtain ⟨v, _, ⟨T', L', k', n'⟩, -, X', ⟨L, hQ, e1, e2, e3⟩, st⟩ := X.specialBack hx (y := y) hy1 hown (mvT hZ w1) (mvT hZ w2) (mvT hZ w4) hy (backOf (W := W) hM hZ w4 w3 hf hl) (g := mkF m pc ls (argsL.reverse ++ .ref a :: rest)) rfl hsize (Steps.refl _) (a := a) (argsL := argsL) (rest := rest) hlen rfl
    (by show 2 * 0 + _ ≤ _; omega) hd (fun _ _ => ⟨has, eT, hcc, hss⟩)
  dsimp only [Pt.U, Pt.locs, Pt.cells, Pt.slots] at X' e1 e2 e3 st hQ
  subst e1 e2 e3
  exact go (fun t kt => st.trans kt) (k T' L v X' hQ)
theorem cV {Z : State} {a0 : Array Value} {h : Heap} (X : Stand p l e R s m args below meth c T locs cells slots) (hx : p.tables.exec = Jvm.exec) (hZ : Z.Warmed39 s.vm) {own C : String} {index : Nat} {y z : MethodName} {bytes : ByteArray} {maxL : Nat} {ret : Option FieldType} {rm : Room} {as' : Array Value} {Q : Option Value → Heap → List Loc → Prop}
    (hown : s.vm.findClass own = some m.cls) (w1 : (Cond.methodLink own index y).before a0 Z = true) (w2 : (Cond.declares y).before a0 Z = true) (hnf : NotFace s y) (w5 : (Cond.selects C y z).before a0 Z = true) (w6 : (Cond.instanceMethod z).before a0 Z = true) (w3 : (Cond.initialized z.cls).before a0 Z = true) (w4 : (Cond.code z bytes maxL ret).before a0 Z = true)
    (hy : y.cls ≠ "java/lang/invoke/MethodHandle" ∧ y.cls ≠ "java/lang/invoke/VarHandle")
    (hM : MetFree l z (head1 [Cond.code z bytes maxL ret] rm) (fun a U => a = as' ∧ Z.Warmed39 U.vm ∧ U.heap = h) (fun _ _ _ _ _ => True) (fun _ U o U' => ∃ v L, o = .returned v ∧ Q v U'.heap L ∧ FrameEnd U o U' L rm.cells rm.slots))
    (hf : rm.frames + 1 ≤ R.frames) {W : Nat} (hl : W + (maxL + 11) + rm.locals ≤ R.locals) {pc : Nat} {ls : Array Slot} {a : Addr} {argsL rest : List Value} (E : Exa Z h a C) (hsize : ls.size = c.maxLocals) (hlen : ∀ sig, parseMethodDescriptor y.desc = some sig → argsL.length = sig.parameters.length)
    (has : (Value.ref a :: argsL).toArray = as') (hW : (rest.map fun v => v.category).sum ≤ W) (hd : decode c.code pc = .ok (.invokevirtual index, 3)) (eT : T.heap = h) (hcc : cells + rm.cells ≤ R.cells) (hss : slots + rm.slots ≤ R.slots) {P : Outcome → State → Prop}
    (k : ∀ T' L v, Stand p l e R s m args below meth c T' (locs ++ L) (cells + rm.cells) (slots + rm.slots) → Q v T'.heap L → Fin p e below (T'.setTop (mkF m (pc + 3) ls (v.toList ++ rest))) P) :
    Fin p e below (T.setTop (mkF m pc ls (argsL.reverse ++ .ref a :: rest))) P := by
  obtain ⟨cq, kq, qa, qb, qc⟩ := isOf hZ eT E
  obtain ⟨v, _, ⟨T', L', k', n'⟩, -, X', ⟨L, hQ, e1, e2, e3⟩, st⟩ := X.virtualBack hx (y := y) (z := z) hown (mvT hZ w1) (mvT hZ w2) hnf (mvT hZ w5) (mvT hZ w6) hy (backOf (W := W) hM hZ w4 w3 hf hl) qa qc (g := mkF m pc ls (argsL.reverse ++ .ref a :: rest)) rfl hsize (Steps.refl _) (argsL := argsL) (rest := rest) hlen rfl
    (by show 2 * 0 + _ ≤ _; omega) hd (fun _ _ => ⟨has, eT, hcc, hss⟩)
  dsimp only [Pt.U, Pt.locs, Pt.cells, Pt.slots] at X' e1 e2 e3 st hQ
  subst e1 e2 e3
  exact go (fun t kt => st.trans kt) (k T' L v X' hQ)
theorem newA {Z : State} {a0 : Array Value} {h : Heap} (X : Stand p l e R s m args below meth c T locs cells slots) (hx : p.tables.exec = Jvm.exec) (hZ : Z.Warmed39 s.vm) {aty : ArrayType} (w : (Cond.arrayClass (newarray.typeOf aty)).before a0 Z = true) (eT : T.heap = h)
    {pc : Nat} {ls : Array Slot} {n : Int32} {rest : List Value} (hd : decode c.code pc = .ok (.newarray aty, 2)) (hn : ¬ n < 0) (cap : Nat) (hcap : n.toNatClampNeg ≤ cap) (hb : cap * 8 ≤ 536870912) (hc : cells + 1 ≤ R.cells) (hl : slots + cap ≤ R.slots) {P : Outcome → State → Prop}
    (k : ∀ T' h' b kA, Stand p l e R s m args below meth c T' locs (cells + 1) (slots + cap) → T'.heap = h' → Ext h h' → b = h.size → Arv Z h' b kA (newarray.typeOf aty) n [] (defaultValue (newarray.typeOf aty)) → Fin p e below (T'.setTop (mkF m (pc + 2) ls (.ref b :: rest))) P) :
    Fin p e below (T.setTop (mkF m pc ls (.int n :: rest))) P := by
  obtain ⟨T', h', kA, X', e', E', A', st⟩ := newP X hx hZ w eT (g := mkF m pc ls (.int n :: rest)) rfl hd rfl hn hcap hb hc hl
  exact go st (k T' h' _ kA X' e' E' rfl (Arv.new A' hn))
theorem stI {Z : State} {h : Heap} {a : Addr} {kA : ClassId} {z : Int32} {vs : List Value} {dv : Value} (X : Stand p l e R s m args below meth c T locs cells slots) (hx : p.tables.exec = Jvm.exec) (hZ : Z.Warmed39 s.vm) (eT : T.heap = h) (V : Arv Z h a kA .int z vs dv)
    {pc : Nat} {ls : Array Slot} {j x : Int32} {rest : List Value} (hd : decode c.code pc = .ok (.iastore, 1)) (hj : ¬ j < 0 ∧ j < z) (i : Nat) (hi : j.toNatClampNeg = i) (hlen : i < vs.length) {P : Outcome → State → Prop}
    (k : ∀ T' h', Stand p l e R s m args below meth c T' (locs ++ [⟨a, j.toNatClampNeg⟩]) cells slots → T'.heap = h' → Wr h h' a j.toNatClampNeg (.int x) → Arv Z h' a kA .int z (vs.set i (.int x)) dv → Fin p e below (T'.setTop (mkF m (pc + 1) ls rest)) P) :
    Fin p e below (T.setTop (mkF m pc ls (.int x :: .int j :: .ref a :: rest))) P := by
  obtain ⟨cl, Ar, q, S, N, H, G⟩ := V
  obtain ⟨T', h', X', e', W', st⟩ := RoadKit.stI X hx hZ eT Ar (j := j) (inb_of S hj) (g := mkF m pc ls (.int x :: .int j :: .ref a :: rest)) rfl rfl hd
  exact go st (k T' h' X' e' W' (Arv.set Ar q S N H G rfl W' i hi hlen))
theorem stJ {Z : State} {h : Heap} {a : Addr} {kA : ClassId} {z : Int32} {vs : List Value} {dv : Value} (X : Stand p l e R s m args below meth c T locs cells slots) (hx : p.tables.exec = Jvm.exec) (hZ : Z.Warmed39 s.vm) (eT : T.heap = h) (V : Arv Z h a kA .long z vs dv)
    {pc : Nat} {ls : Array Slot} {j : Int32} {x : Int64} {rest : List Value} (hd : decode c.code pc = .ok (.lastore, 1)) (hj : ¬ j < 0 ∧ j < z) (i : Nat) (hi : j.toNatClampNeg = i) (hlen : i < vs.length) {P : Outcome → State → Prop}
    (k : ∀ T' h', Stand p l e R s m args below meth c T' (locs ++ [⟨a, j.toNatClampNeg⟩]) cells slots → T'.heap = h' → Wr h h' a j.toNatClampNeg (.long x) → Arv Z h' a kA .long z (vs.set i (.long x)) dv → Fin p e below (T'.setTop (mkF m (pc + 1) ls rest)) P) :
    Fin p e below (T.setTop (mkF m pc ls (.long x :: .int j :: .ref a :: rest))) P := by
  obtain ⟨cl, Ar, q, S, N, H, G⟩ := V
  obtain ⟨T', h', X', e', W', st⟩ := RoadKit.stJ X hx hZ eT Ar (j := j) (inb_of S hj) (g := mkF m pc ls (.long x :: .int j :: .ref a :: rest)) rfl rfl hd
  exact go st (k T' h' X' e' W' (Arv.set Ar q S N H G rfl W' i hi hlen))
theorem stB {Z : State} {h : Heap} {a : Addr} {kA : ClassId} {z : Int32} {vs : List Value} {dv : Value} (X : Stand p l e R s m args below meth c T locs cells slots) (hx : p.tables.exec = Jvm.exec) (hZ : Z.Warmed39 s.vm) (eT : T.heap = h) (V : Arv Z h a kA .byte z vs dv)
    {pc : Nat} {ls : Array Slot} {j x : Int32} {rest : List Value} (hd : decode c.code pc = .ok (.bastore, 1)) (hj : ¬ j < 0 ∧ j < z) (i : Nat) (hi : j.toNatClampNeg = i) (hlen : i < vs.length) {P : Outcome → State → Prop}
    (k : ∀ T' h', Stand p l e R s m args below meth c T' (locs ++ [⟨a, j.toNatClampNeg⟩]) cells slots → T'.heap = h' → Wr h h' a j.toNatClampNeg (.int (nar .byte x)) → Arv Z h' a kA .byte z (vs.set i (.int (nar .byte x))) dv → Fin p e below (T'.setTop (mkF m (pc + 1) ls rest)) P) :
    Fin p e below (T.setTop (mkF m pc ls (.int x :: .int j :: .ref a :: rest))) P := by
  obtain ⟨cl, Ar, q, S, N, H, G⟩ := V
  obtain ⟨T', h', X', e', W', st⟩ := RoadKit.stB X hx hZ eT Ar (j := j) (inb_of S hj) (g := mkF m pc ls (.int x :: .int j :: .ref a :: rest)) rfl rfl hd
  exact go st (k T' h' X' e' W' (Arv.set Ar q S N H G (fits_nar_byte _) W' i hi hlen))
theorem stC {Z : State} {h : Heap} {a : Addr} {kA : ClassId} {z : Int32} {vs : List Value} {dv : Value} (X : Stand p l e R s m args below meth c T locs cells slots) (hx : p.tables.exec = Jvm.exec) (hZ : Z.Warmed39 s.vm) (eT : T.heap = h) (V : Arv Z h a kA .char z vs dv)
    {pc : Nat} {ls : Array Slot} {j x : Int32} {rest : List Value} (hd : decode c.code pc = .ok (.castore, 1)) (hj : ¬ j < 0 ∧ j < z) (i : Nat) (hi : j.toNatClampNeg = i) (hlen : i < vs.length) {P : Outcome → State → Prop}
    (k : ∀ T' h', Stand p l e R s m args below meth c T' (locs ++ [⟨a, j.toNatClampNeg⟩]) cells slots → T'.heap = h' → Wr h h' a j.toNatClampNeg (.int (nar .char x)) → Arv Z h' a kA .char z (vs.set i (.int (nar .char x))) dv → Fin p e below (T'.setTop (mkF m (pc + 1) ls rest)) P) :
    Fin p e below (T.setTop (mkF m pc ls (.int x :: .int j :: .ref a :: rest))) P := by
  obtain ⟨cl, Ar, q, S, N, H, G⟩ := V
  obtain ⟨T', h', X', e', W', st⟩ := RoadKit.stC X hx hZ eT Ar (j := j) (inb_of S hj) (g := mkF m pc ls (.int x :: .int j :: .ref a :: rest)) rfl rfl hd
  exact go st (k T' h' X' e' W' (Arv.set Ar q S N H G (fits_nar_char _) W' i hi hlen))
theorem alen {Z : State} {h : Heap} {a : Addr} {kA : ClassId} {ty : FieldType} {z : Int32} {vs : List Value} {dv : Value} (X : Stand p l e R s m args below meth c T locs cells slots) (hx : p.tables.exec = Jvm.exec) (hZ : Z.Warmed39 s.vm) (eT : T.heap = h) (V : Arv Z h a kA ty z vs dv)
    {pc : Nat} {ls : Array Slot} {rest : List Value} (hd : decode c.code pc = .ok (.arraylength, 1)) {P : Outcome → State → Prop} (k : Fin p e below (T.setTop (mkF m (pc + 1) ls (.int z :: rest))) P) :
    Fin p e below (T.setTop (mkF m pc ls (.ref a :: rest))) P := by
  obtain ⟨cl, Ar, q, S, N, H, G⟩ := V
  refine go (fun t kt => X.arraylength hx (by rw [eT]; exact Ar.1) (State.isArrayOf_alike hZ.alike Ar.2.1) (g := mkF m pc ls (.ref a :: rest)) rfl rfl hd t kt) ?_
  rw [len_of S N]
  exact k
theorem arv_at {Z : State} {h : Heap} {a : Addr} {kA : ClassId} {ty : FieldType} {z : Int32} {vs : List Value} {dv : Value} (V : Arv Z h a kA ty z vs dv) {j : Int32} (hj : ¬ j < 0 ∧ j < z) :
    ∃ cl, Arr Z h a cl ty ∧ ¬ (j < 0 ∨ cl.slots.size ≤ j.toNatClampNeg) ∧ cl.slots[j.toNatClampNeg]? = some (vs.getD j.toNatClampNeg dv) ∧ fits ty (vs.getD j.toNatClampNeg dv) = true := by
  obtain ⟨cl, Ar, q, S, N, H, G⟩ := V
  have hin := inb_of S hj
  have hlt : j.toNatClampNeg < cl.slots.size := Nat.lt_of_not_le fun q => hin (Or.inr q)
  exact ⟨cl, Ar, hin, H _ hlt, G _ hlt⟩
theorem ldI {Z : State} {h : Heap} {a : Addr} {kA : ClassId} {z : Int32} {vs : List Value} {dv : Value} (X : Stand p l e R s m args below meth c T locs cells slots) (hx : p.tables.exec = Jvm.exec) (hZ : Z.Warmed39 s.vm) (eT : T.heap = h) (V : Arv Z h a kA .int z vs dv)
    {pc : Nat} {ls : Array Slot} {j : Int32} {rest : List Value} (hd : decode c.code pc = .ok (.iaload, 1)) (hj : ¬ j < 0 ∧ j < z) {P : Outcome → State → Prop} (k : ∀ x, vs.getD j.toNatClampNeg dv = .int x → Fin p e below (T.setTop (mkF m (pc + 1) ls (.int x :: rest))) P) :
    Fin p e below (T.setTop (mkF m pc ls (.int j :: .ref a :: rest))) P := by
  obtain ⟨cl, Ar, hin, hat, hf⟩ := arv_at V hj
  obtain ⟨x, hx'⟩ := fit_I hf (Or.inl rfl)
  refine go (fun t kt => X.iaload hx (j := j) (v := .int x) (by rw [eT]; exact Ar.1) (State.isArrayOf_alike hZ.alike Ar.2.1) Ar.2.2 hin (by rw [hat, hx']) (g := mkF m pc ls (.int j :: .ref a :: rest)) rfl rfl hd t kt) (k x hx')
theorem ldJ {Z : State} {h : Heap} {a : Addr} {kA : ClassId} {z : Int32} {vs : List Value} {dv : Value} (X : Stand p l e R s m args below meth c T locs cells slots) (hx : p.tables.exec = Jvm.exec) (hZ : Z.Warmed39 s.vm) (eT : T.heap = h) (V : Arv Z h a kA .long z vs dv)
    {pc : Nat} {ls : Array Slot} {j : Int32} {rest : List Value} (hd : decode c.code pc = .ok (.laload, 1)) (hj : ¬ j < 0 ∧ j < z) {P : Outcome → State → Prop} (k : ∀ x, vs.getD j.toNatClampNeg dv = .long x → Fin p e below (T.setTop (mkF m (pc + 1) ls (.long x :: rest))) P) :
    Fin p e below (T.setTop (mkF m pc ls (.int j :: .ref a :: rest))) P := by
  obtain ⟨cl, Ar, hin, hat, hf⟩ := arv_at V hj
  obtain ⟨x, hx'⟩ := fit_J hf
  refine go (fun t kt => X.laload hx (j := j) (v := .long x) (by rw [eT]; exact Ar.1) (State.isArrayOf_alike hZ.alike Ar.2.1) Ar.2.2 hin (by rw [hat, hx']) (g := mkF m pc ls (.int j :: .ref a :: rest)) rfl rfl hd t kt) (k x hx')
theorem ldB {Z : State} {h : Heap} {a : Addr} {kA : ClassId} {z : Int32} {vs : List Value} {dv : Value} (X : Stand p l e R s m args below meth c T locs cells slots) (hx : p.tables.exec = Jvm.exec) (hZ : Z.Warmed39 s.vm) (eT : T.heap = h) (V : Arv Z h a kA .byte z vs dv)
    {pc : Nat} {ls : Array Slot} {j : Int32} {rest : List Value} (hd : decode c.code pc = .ok (.baload, 1)) (hj : ¬ j < 0 ∧ j < z) {P : Outcome → State → Prop} (k : ∀ x, vs.getD j.toNatClampNeg dv = .int x → Fin p e below (T.setTop (mkF m (pc + 1) ls (.int x :: rest))) P) :
    Fin p e below (T.setTop (mkF m pc ls (.int j :: .ref a :: rest))) P := by
  obtain ⟨cl, Ar, hin, hat, hf⟩ := arv_at V hj
  obtain ⟨x, hx'⟩ := fit_I hf (Or.inr (Or.inr (Or.inl rfl)))
  refine go (fun t kt => X.baloadBytes hx (j := j) (v := .int x) (by rw [eT]; exact Ar.1) (State.isArrayOf_alike hZ.alike Ar.2.1) Ar.2.2 hin (by rw [hat, hx']) (g := mkF m pc ls (.int j :: .ref a :: rest)) rfl rfl hd t kt) (k x hx')
theorem ldC {Z : State} {h : Heap} {a : Addr} {kA : ClassId} {z : Int32} {vs : List Value} {dv : Value} (X : Stand p l e R s m args below meth c T locs cells slots) (hx : p.tables.exec = Jvm.exec) (hZ : Z.Warmed39 s.vm) (eT : T.heap = h) (V : Arv Z h a kA .char z vs dv)
    {pc : Nat} {ls : Array Slot} {j : Int32} {rest : List Value} (hd : decode c.code pc = .ok (.caload, 1)) (hj : ¬ j < 0 ∧ j < z) {P : Outcome → State → Prop} (k : ∀ x, vs.getD j.toNatClampNeg dv = .int x → Fin p e below (T.setTop (mkF m (pc + 1) ls (.int x :: rest))) P) :
    Fin p e below (T.setTop (mkF m pc ls (.int j :: .ref a :: rest))) P := by
  obtain ⟨cl, Ar, hin, hat, hf⟩ := arv_at V hj
  obtain ⟨x, hx'⟩ := fit_I hf (Or.inr (Or.inr (Or.inr (Or.inl rfl))))
  refine go (fun t kt => X.caload hx (j := j) (v := .int x) (by rw [eT]; exact Ar.1) (State.isArrayOf_alike hZ.alike Ar.2.1) Ar.2.2 hin (by rw [hat, hx']) (g := mkF m pc ls (.int j :: .ref a :: rest)) rfl rfl hd t kt) (k x hx')
theorem ldR {Z : State} {h : Heap} {a : Addr} {kA : ClassId} {ty : FieldType} {z : Int32} {vs : List Value} {dv : Value} (X : Stand p l e R s m args below meth c T locs cells slots) (hx : p.tables.exec = Jvm.exec) (hZ : Z.Warmed39 s.vm) (eT : T.heap = h) (V : Arv Z h a kA ty z vs dv) (ht : ty.isReference = true)
    {pc : Nat} {ls : Array Slot} {j : Int32} {rest : List Value} (hd : decode c.code pc = .ok (.aaload, 1)) (hj : ¬ j < 0 ∧ j < z) {w : Value} (hv : vs.getD j.toNatClampNeg dv = w) {P : Outcome → State → Prop} (k : Fin p e below (T.setTop (mkF m (pc + 1) ls (w :: rest))) P) :
    Fin p e below (T.setTop (mkF m pc ls (.int j :: .ref a :: rest))) P := by
  obtain ⟨cl, Ar, hin, hat, hf⟩ := arv_at V hj
  exact go (fun t kt => X.aaload hx (j := j) (v := w) (by rw [eT]; exact Ar.1) (State.isArrayOf_alike hZ.alike Ar.2.1) ht Ar.2.2 hin (by rw [hat, hv]) (g := mkF m pc ls (.int j :: .ref a :: rest)) rfl rfl hd t kt) k
theorem ldBc {Z : State} {h : Heap} {a : Addr} {cl : Cell} (X : Stand p l e R s m args below meth c T locs cells slots) (hx : p.tables.exec = Jvm.exec) (hZ : Z.Warmed39 s.vm) (eT : T.heap = h) (A : Arr Z h a cl .byte)
    {pc : Nat} {ls : Array Slot} {j x : Int32} {rest : List Value} (hd : decode c.code pc = .ok (.baload, 1)) (hin : ¬ (j < 0 ∨ cl.slots.size ≤ j.toNatClampNeg)) (hv : cl.slots[j.toNatClampNeg]? = some (.int x)) {P : Outcome → State → Prop} (k : Fin p e below (T.setTop (mkF m (pc + 1) ls (.int x :: rest))) P) :
    Fin p e below (T.setTop (mkF m pc ls (.int j :: .ref a :: rest))) P :=
  go (fun t kt => X.baloadBytes hx (j := j) (v := .int x) (by rw [eT]; exact A.1) (State.isArrayOf_alike hZ.alike A.2.1) A.2.2 hin hv (g := mkF m pc ls (.int j :: .ref a :: rest)) rfl rfl hd t kt) k
theorem alenC {Z : State} {h : Heap} {a : Addr} {cl : Cell} {ty : FieldType} {z : Int32} (X : Stand p l e R s m args below meth c T locs cells slots) (hx : p.tables.exec = Jvm.exec) (hZ : Z.Warmed39 s.vm) (eT : T.heap = h) (A : Arr Z h a cl ty) (hz : cl.slots.size.toInt32 = z)
    {pc : Nat} {ls : Array Slot} {rest : List Value} (hd : decode c.code pc = .ok (.arraylength, 1)) {P : Outcome → State → Prop} (k : Fin p e below (T.setTop (mkF m (pc + 1) ls (.int z :: rest))) P) :
    Fin p e below (T.setTop (mkF m pc ls (.ref a :: rest))) P := by
  refine go (fun t kt => X.arraylength hx (by rw [eT]; exact A.1) (State.isArrayOf_alike hZ.alike A.2.1) (g := mkF m pc ls (.ref a :: rest)) rfl rfl hd t kt) ?_
  rw [hz]
  exact k
theorem retR (X : Stand p l e R s m args below meth c T locs cells slots) (hx : p.tables.exec = Jvm.exec) (hlk : meth.locks = false) {t : FieldType} (hret : meth.sig.returnType = some t) (ht : t.isReference = true) {pc : Nat} {Ls : Array Slot} {z : Value} (hz : z.isRef = true) {rest : List Value} (hd : decode c.code pc = .ok (.areturn, 1))
    {K : Option Value → Heap → List Loc → Prop} {cc ss : Nat} (hc : cells ≤ cc) (hs : slots ≤ ss) (hk : K (some z) T.heap locs) : Fin p e below (T.setTop (mkF m pc Ls (z :: rest))) (Post s K cc ss) := by
  refine retAny X (v := some z) hlk (fun h => by rw [hret] at h; cases h) (fun fs hl => ?_) hc hs hk
  have hm' : T.vm.method? m = some meth := X.method'
  show Steps p.tables e below (T.setTop { method := m, pc := pc, locals := Ls, stack := _ :: rest, locked := none }) _
  jvm_step X.here [X.here.top, hx, hd, hm', hret, ht, hz]
  first | (intro acts; rw [hl _ acts rfl rfl rfl]) | rw [hl _ _ rfl rfl rfl]
  exact Steps.refl _
theorem cP {Z : State} {a0 : Array Value} {h : Heap} (X : Stand p l e R s m args below meth c T locs cells slots) (hx : p.tables.exec = Jvm.exec) (hZ : Z.Warmed39 s.vm) {own C : String} {index : Nat} {y y' : MethodName} {bytes : ByteArray} {maxL : Nat} {ret : Option FieldType} {rm : Room} {as' : Array Value} {Q : Option Value → Heap → List Loc → Prop}
    (hown : s.vm.findClass own = some m.cls) (w1 : (Cond.methodLink own index y).before a0 Z = true) (w2 : (Cond.instanceMethod y).before a0 Z = true) (w5 : (Cond.privateMethod y).before a0 Z = true) (w7 : (Cond.selects C y' y').before a0 Z = true) (hcl : y'.cls = y.cls) (w3 : (Cond.initialized y.cls).before a0 Z = true) (w4 : (Cond.code y bytes maxL ret).before a0 Z = true)
    (hy : y.cls ≠ "java/lang/invoke/MethodHandle" ∧ y.cls ≠ "java/lang/invoke/VarHandle")
    (hM : MetFree l y (head1 [Cond.code y bytes maxL ret] rm) (fun a U => a = as' ∧ Z.Warmed39 U.vm ∧ U.heap = h) (fun _ _ _ _ _ => True) (fun _ U o U' => ∃ v L, o = .returned v ∧ Q v U'.heap L ∧ FrameEnd U o U' L rm.cells rm.slots))
    (hf : rm.frames + 1 ≤ R.frames) {W : Nat} (hl : W + (maxL + 11) + rm.locals ≤ R.locals) {pc : Nat} {ls : Array Slot} {a : Addr} {argsL rest : List Value} {C' : String} (E : Exa Z h a C') (hsize : ls.size = c.maxLocals) (hlen : ∀ sig, parseMethodDescriptor y.desc = some sig → argsL.length = sig.parameters.length)
    (has : (Value.ref a :: argsL).toArray = as') (hW : (rest.map fun v => v.category).sum ≤ W) (hd : decode c.code pc = .ok (.invokevirtual index, 3)) (eT : T.heap = h) (hcc : cells + rm.cells ≤ R.cells) (hss : slots + rm.slots ≤ R.slots) {P : Outcome → State → Prop}
    (k : ∀ T' L v, Stand p l e R s m args below meth c T' (locs ++ L) (cells + rm.cells) (slots + rm.slots) → Q v T'.heap L → Fin p e below (T'.setTop (mkF m (pc + 3) ls (v.toList ++ rest))) P) :
    Fin p e below (T.setTop (mkF m pc ls (argsL.reverse ++ .ref a :: rest))) P := by
  have hpr : s.PrivateAt y := Cond.privateMethod_at (mvP hZ w5 (args := #[]))
  have hsel : (Cond.selects y.cls y y).before args s = true := by
    obtain ⟨c2, r2, m2, q1, q2, q3, q4, kP, hkP, hkPi⟩ := Cond.selects_spec (mvT (args := args) hZ w7)
    exact selects_self_of_private (hcl ▸ findClass_of_methodNamed q3) hkP hkPi hpr (mvT hZ w2) hy
  obtain ⟨cq, q1, q2⟩ := E.cell
  obtain ⟨v, _, ⟨T', L', k', n'⟩, -, X', ⟨L, hQ, e1, e2, e3⟩, st⟩ := X.privateBack hx (y := y) hown (mvT hZ w1) (mvT hZ w2) hsel hpr (mvT hZ w4) hy (backOf (W := W) hM hZ w4 w3 hf hl) (g := mkF m pc ls (argsL.reverse ++ .ref a :: rest)) rfl hsize (Steps.refl _) (a := a) (by rw [eT]; exact q1) q2 (argsL := argsL) (rest := rest) hlen rfl
    (by show 2 * 0 + _ ≤ _; omega) hd (fun _ _ => ⟨has, eT, hcc, hss⟩)
  dsimp only [Pt.U, Pt.locs, Pt.cells, Pt.slots] at X' e1 e2 e3 st hQ
  subst e1 e2 e3
  exact go (fun t kt => st.trans kt) (k T' L v X' hQ)
end A
section B
variable {args : Array Value} {first s : State} {o : Option Outcome} {idx : List Nat} {a b : Term}
theorem eqR {y : Addr} (h : (Cond.eq a b).value args first o s idx = some true) (hb : b.eval args first o idx s = some (.ref y)) : a.eval args first o idx s = some (.ref y) := by
  obtain ⟨x', y', h1, h2, k1, k2⟩ := cmp_v (Or.inl h)
  cases hb.symm.trans h2
  have hx : x'.isRef = true := k2.2
  rw [h1, gotT (eq_R h1 hb hx rfl) h]
theorem eqI {y : Int32} (h : (Cond.eq a b).value args first o s idx = some true) (hb : b.eval args first o idx s = some (.int y)) : a.eval args first o idx s = some (.int y) := by
  obtain ⟨x', y', h1, h2, k1, k2⟩ := cmp_v (Or.inl h)
  cases hb.symm.trans h2
  obtain ⟨z, rfl⟩ := k2
  rw [h1, gotT (Cond.eq_ints h1 hb) h]
theorem len_at {y : Int32} (h : (Term.length a).eval args first o idx s = some (.int y)) : ∃ (x : Addr) (cell : Cell), a.eval args first o idx s = some (.ref x) ∧ s.arrayAt? x = some cell ∧ cell.slots.size < 2 ^ 31 ∧ cell.slots.size.toInt32 = y := by
  obtain ⟨b, cell, h1, h2, h3, h4⟩ := Jvm.Lib.length_spec h
  exact ⟨b, cell, h1, h2, h3, (Value.int.inj h4).symm⟩
end B
end Own
namespace Jvm.Pilot.@@N@@
open Jvm Jvm.ClassFile Sem Op Lib Jvm.Free Jvm.Stand Jvm.LawKit Jvm.RoadKit Bundle Jvm.Pilot.@@N@@.Jvm.D
def sb (b : Nat) : Int32 := (Int32.ofNat b).toInt8.toInt32
theorem i_lt (i j : Nat) (hi : i < 2147483648) (hj : j < 2147483648) : (Int32.ofNat i < Int32.ofNat j) ↔ i < j := by
  rw [Int32.lt_iff_toInt_lt, Int32.toInt_ofNat_small (by omega), Int32.toInt_ofNat_small (by omega)]
  omega
theorem sb_int (b : Nat) (hb : b < 256) : ((sb b).toInt - b) % 256 = 0 ∧ -128 ≤ (sb b).toInt ∧ (sb b).toInt < 128 := by
  have h := c_i2b (Int32.ofNat b)
  rw [Int32.toInt_ofNat_small (by omega)] at h
  exact h
theorem sb_of (x : Int32) (b : Nat) (hb : b < 256) (h : (x.toInt - b) % 256 = 0) : x.toInt8.toInt32 = sb b := by
  have h1 := c_i2b x
  have h2 := sb_int b hb
  apply Int32.toInt_inj.mp
  omega
def tab (N : Nat) (g : Nat → Value) : List Value := (List.range N).map g
def upd (g : Nat → Value) (i : Nat) (v : Value) : Nat → Value := fun k => if k = i then v else g k
theorem tab_len (N : Nat) (g : Nat → Value) : (tab N g).length = N := by simp [tab]
theorem tab_getD {N : Nat} {g : Nat → Value} {i : Nat} {dv : Value} (h : i < N) : (tab N g).getD i dv = g i := by simp [tab, List.getD, h]
theorem tab_set {N : Nat} {g : Nat → Value} {i : Nat} {v : Value} : (tab N g).set i v = tab N (upd g i v) := by
  apply List.ext_getElem?
  intro k
  simp only [tab, List.getElem?_set, List.length_map, List.length_range, List.getElem?_map, upd]
  by_cases h : i = k
  · subst h
    by_cases h2 : i < N
    · simp [h2, upd]
    · simp [h2]
  · by_cases h2 : k < N
    · simp [h, h2, upd, Ne.symm h]
    · simp [h, h2]
theorem tab_pad {N : Nat} {g g' : Nat → Value} {dv : Value} (h : ∀ i < N, g' i = g i) : ∀ i, (tab N g').getD i dv = (tab N g).getD i dv := by
  have e : tab N g' = tab N g := List.map_congr_left (fun i hi => h i (List.mem_range.mp hi))
  intro i; rw [e]
theorem tab_nil (N : Nat) (dv : Value) : ∀ i, (tab N fun _ => dv).getD i dv = ([] : List Value).getD i dv := by
  intro i
  by_cases h : i < N
  · rw [tab_getD h]; rfl
  · simp [tab, List.getD, h]
theorem clamp_n (i : Nat) (h : i < 2147483648) : (Int32.ofNat i).toNatClampNeg = i := by
  show (Int32.ofNat i).toInt.toNat = i
  rw [Int32.toInt_ofNat_small (by omega)]; omega
theorem in_n {i N : Nat} (h : i < N) (hN : N < 2147483648) : ¬ Int32.ofNat i < 0 ∧ Int32.ofNat i < Int32.ofNat N := by
  refine ⟨?_, (i_lt i N (by omega) hN).mpr h⟩
  rw [Int32.lt_iff_toInt_lt, Int32.toInt_ofNat_small (by omega), show (0 : Int32).toInt = 0 by decide]; omega
section
variable {p : Program} {l : Launch} {e : Env} {R : Room} {s : State} {m : MethodId} {args : Array Value} {below : List Frame} {meth : Method} {c : Code} {T : State} {locs : List Loc} {cells slots : Nat}
theorem stIT {Z : State} {h : Heap} {a : Addr} {kA : ClassId} {z : Int32} {N : Nat} {g : Nat → Value} {dv : Value} (X : Stand p l e R s m args below meth c T locs cells slots) (hx : p.tables.exec = Jvm.exec) (hZ : Z.Warmed39 s.vm) (eT : T.heap = h) (V : Arv Z h a kA .int z (tab N g) dv)
    {pc : Nat} {ls : Array Slot} {j x : Int32} {rest : List Value} (hd : decode c.code pc = .ok (.iastore, 1)) (hz : z = Int32.ofNat N) (hN : N < 2147483648) (i : Nat) (hj : j = Int32.ofNat i) (hi : i < N) {P : Outcome → State → Prop}
    (k : ∀ T' h', Stand p l e R s m args below meth c T' (locs ++ [⟨a, j.toNatClampNeg⟩]) cells slots → T'.heap = h' → Wr h h' a j.toNatClampNeg (.int x) → Arv Z h' a kA .int z (tab N (upd g i (.int x))) dv → Own.Fin p e below (T'.setTop (mkF m (pc + 1) ls rest)) P) :
    Own.Fin p e below (T.setTop (mkF m pc ls (.int x :: .int j :: .ref a :: rest))) P :=
  Own.stI X hx hZ eT V hd (by rw [hj, hz]; exact in_n hi hN) i (by rw [hj]; exact clamp_n i (Nat.lt_trans hi hN)) (by rw [tab_len]; exact hi) (fun T' h' X' e' W' V' => k T' h' X' e' W' (by rw [tab_set] at V'; exact V'))
theorem stBT {Z : State} {h : Heap} {a : Addr} {kA : ClassId} {z : Int32} {N : Nat} {g : Nat → Value} {dv : Value} (X : Stand p l e R s m args below meth c T locs cells slots) (hx : p.tables.exec = Jvm.exec) (hZ : Z.Warmed39 s.vm) (eT : T.heap = h) (V : Arv Z h a kA .byte z (tab N g) dv)
    {pc : Nat} {ls : Array Slot} {j x : Int32} {rest : List Value} (hd : decode c.code pc = .ok (.bastore, 1)) (hz : z = Int32.ofNat N) (hN : N < 2147483648) (i : Nat) (hj : j = Int32.ofNat i) (hi : i < N) {P : Outcome → State → Prop}
    (k : ∀ T' h', Stand p l e R s m args below meth c T' (locs ++ [⟨a, j.toNatClampNeg⟩]) cells slots → T'.heap = h' → Wr h h' a j.toNatClampNeg (.int (nar .byte x)) → Arv Z h' a kA .byte z (tab N (upd g i (.int (nar .byte x)))) dv → Own.Fin p e below (T'.setTop (mkF m (pc + 1) ls rest)) P) :
    Own.Fin p e below (T.setTop (mkF m pc ls (.int x :: .int j :: .ref a :: rest))) P :=
  Own.stB X hx hZ eT V hd (by rw [hj, hz]; exact in_n hi hN) i (by rw [hj]; exact clamp_n i (Nat.lt_trans hi hN)) (by rw [tab_len]; exact hi) (fun T' h' X' e' W' V' => k T' h' X' e' W' (by rw [tab_set] at V'; exact V'))
theorem ldIT {Z : State} {h : Heap} {a : Addr} {kA : ClassId} {z : Int32} {N : Nat} {g : Nat → Value} {dv : Value} (X : Stand p l e R s m args below meth c T locs cells slots) (hx : p.tables.exec = Jvm.exec) (hZ : Z.Warmed39 s.vm) (eT : T.heap = h) (V : Arv Z h a kA .int z (tab N g) dv)
    {pc : Nat} {ls : Array Slot} {j x : Int32} {rest : List Value} (hd : decode c.code pc = .ok (.iaload, 1)) (hz : z = Int32.ofNat N) (hN : N < 2147483648) (i : Nat) (hj : j = Int32.ofNat i) (hi : i < N) (hv : g i = .int x) {P : Outcome → State → Prop} (k : Own.Fin p e below (T.setTop (mkF m (pc + 1) ls (.int x :: rest))) P) :
    Own.Fin p e below (T.setTop (mkF m pc ls (.int j :: .ref a :: rest))) P :=
  Own.ldI X hx hZ eT V hd (by rw [hj, hz]; exact in_n hi hN) (fun y hy => by
    rw [hj, clamp_n i (Nat.lt_trans hi hN), tab_getD hi, hv] at hy
    cases hy; exact k)
theorem ldBT {Z : State} {h : Heap} {a : Addr} {kA : ClassId} {z : Int32} {N : Nat} {g : Nat → Value} {dv : Value} (X : Stand p l e R s m args below meth c T locs cells slots) (hx : p.tables.exec = Jvm.exec) (hZ : Z.Warmed39 s.vm) (eT : T.heap = h) (V : Arv Z h a kA .byte z (tab N g) dv)
    {pc : Nat} {ls : Array Slot} {j x : Int32} {rest : List Value} (hd : decode c.code pc = .ok (.baload, 1)) (hz : z = Int32.ofNat N) (hN : N < 2147483648) (i : Nat) (hj : j = Int32.ofNat i) (hi : i < N) (hv : g i = .int x) {P : Outcome → State → Prop} (k : Own.Fin p e below (T.setTop (mkF m (pc + 1) ls (.int x :: rest))) P) :
    Own.Fin p e below (T.setTop (mkF m pc ls (.int j :: .ref a :: rest))) P :=
  Own.ldB X hx hZ eT V hd (by rw [hj, hz]; exact in_n hi hN) (fun y hy => by
    rw [hj, clamp_n i (Nat.lt_trans hi hN), tab_getD hi, hv] at hy
    cases hy; exact k)
theorem ldCT {Z : State} {h : Heap} {a : Addr} {kA : ClassId} {z : Int32} {N : Nat} {g : Nat → Value} {dv : Value} (X : Stand p l e R s m args below meth c T locs cells slots) (hx : p.tables.exec = Jvm.exec) (hZ : Z.Warmed39 s.vm) (eT : T.heap = h) (V : Arv Z h a kA .char z (tab N g) dv)
    {pc : Nat} {ls : Array Slot} {j x : Int32} {rest : List Value} (hd : decode c.code pc = .ok (.caload, 1)) (hz : z = Int32.ofNat N) (hN : N < 2147483648) (i : Nat) (hj : j = Int32.ofNat i) (hi : i < N) (hv : g i = .int x) {P : Outcome → State → Prop} (k : Own.Fin p e below (T.setTop (mkF m (pc + 1) ls (.int x :: rest))) P) :
    Own.Fin p e below (T.setTop (mkF m pc ls (.int j :: .ref a :: rest))) P :=
  Own.ldC X hx hZ eT V hd (by rw [hj, hz]; exact in_n hi hN) (fun y hy => by
    rw [hj, clamp_n i (Nat.lt_trans hi hN), tab_getD hi, hv] at hy
    cases hy; exact k)
end
theorem own_nf {s : State} {a : Array Value} {C : String} {y y' : MethodName} (w : (Cond.selects C y' y').before a s = true) (hc : y'.cls = y.cls) : NotFace s y := fun r0 h0 => by
  obtain ⟨c2, r2, m2, q1, q2, q3, q4, k, hk, hki⟩ := Cond.selects_spec w
  have e1 := findClass_of_methodNamed q3
  have e2 := findClass_of_methodNamed h0
  rw [hc, e2] at e1
  refine ⟨k, ?_, hki⟩
  rw [Option.some.inj e1]; exact hk
theorem own_same {Z : State} {a0 : Array Value} {C : String} {y y' : MethodName} (w : (Cond.selects C y' y').before a0 Z = true) (hc : y'.cls = y.cls) (wi : (Cond.instanceMethod y).before a0 Z = true) (hy : y.cls ≠ "java/lang/invoke/MethodHandle" ∧ y.cls ≠ "java/lang/invoke/VarHandle") :
    (Cond.sameMethod y.cls y.cls y.name y.desc).before a0 Z = true := by
  obtain ⟨mk, methM, hnamed, -, -, -⟩ := Cond.instanceMethod_spec wi
  have hf := State.methodFound?_of_named hnamed hy
  obtain ⟨k, hk, hki⟩ := own_nf w hc mk hnamed
  have hcl := findClass_of_methodNamed hnamed
  simp only [Cond.before, Cond.holds, Cond.value, hcl, hf, hnamed, hk]
  simp [hki]
section
variable {p : Program} {l : Launch} {e : Env} {R : Room} {s : State} {m : MethodId} {args : Array Value} {below : List Frame} {meth : Method} {c : Code} {T : State} {locs : List Loc} {cells slots : Nat}
theorem stCT {Z : State} {h : Heap} {a : Addr} {kA : ClassId} {z : Int32} {N : Nat} {g : Nat → Value} {dv : Value} (X : Stand p l e R s m args below meth c T locs cells slots) (hx : p.tables.exec = Jvm.exec) (hZ : Z.Warmed39 s.vm) (eT : T.heap = h) (V : Arv Z h a kA .char z (tab N g) dv)
    {pc : Nat} {ls : Array Slot} {j x : Int32} {rest : List Value} (hd : decode c.code pc = .ok (.castore, 1)) (hz : z = Int32.ofNat N) (hN : N < 2147483648) (i : Nat) (hj : j = Int32.ofNat i) (hi : i < N) {P : Outcome → State → Prop}
    (k : ∀ T' h', Stand p l e R s m args below meth c T' (locs ++ [⟨a, j.toNatClampNeg⟩]) cells slots → T'.heap = h' → Wr h h' a j.toNatClampNeg (.int (nar .char x)) → Arv Z h' a kA .char z (tab N (upd g i (.int (nar .char x)))) dv → Own.Fin p e below (T'.setTop (mkF m (pc + 1) ls rest)) P) :
    Own.Fin p e below (T.setTop (mkF m pc ls (.int x :: .int j :: .ref a :: rest))) P :=
  Own.stC X hx hZ eT V hd (by rw [hj, hz]; exact in_n hi hN) i (by rw [hj]; exact clamp_n i (Nat.lt_trans hi hN)) (by rw [tab_len]; exact hi) (fun T' h' X' e' W' V' => k T' h' X' e' W' (by rw [tab_set] at V'; exact V'))
theorem own_cU {Z : State} {a0 : Array Value} {h : Heap} (X : Stand p l e R s m args below meth c T locs cells slots) (hx : p.tables.exec = Jvm.exec) (hZ : Z.Warmed39 s.vm) {own C K : String} {index : Nat} {y y' : MethodName} {bytes : ByteArray} {maxL : Nat} {ret : Option FieldType} {rm : Room} {as' : Array Value} {Q : Option Value → Heap → List Loc → Prop}
    (hown : s.vm.findClass own = some m.cls) (w1 : (Cond.methodLink own index y).before a0 Z = true) (w5 : (Cond.selects C y' y').before a0 Z = true) (hcl : y'.cls = y.cls) (w2 : (Cond.instanceMethod y).before a0 Z = true) (w6 : (Cond.superclass own y.cls).before a0 Z = true) (hn : y.name ≠ "<init>") (w3 : (Cond.initialized y.cls).before a0 Z = true) (w4 : (Cond.code y bytes maxL ret).before a0 Z = true)
    (hy : y.cls ≠ "java/lang/invoke/MethodHandle" ∧ y.cls ≠ "java/lang/invoke/VarHandle")
    (hM : MetFree l y (head1 [Cond.code y bytes maxL ret] rm) (fun a U => a = as' ∧ Z.Warmed39 U.vm ∧ U.heap = h) (fun _ _ _ _ _ => True) (fun _ U o U' => ∃ v L, o = .returned v ∧ Q v U'.heap L ∧ FrameEnd U o U' L rm.cells rm.slots))
    (hf : rm.frames + 1 ≤ R.frames) {W : Nat} (hl : W + (maxL + 11) + rm.locals ≤ R.locals) {pc : Nat} {ls : Array Slot} {a : Addr} {argsL rest : List Value} (E : Ins Z h a K true) (hsize : ls.size = c.maxLocals) (hlen : ∀ sig, parseMethodDescriptor y.desc = some sig → argsL.length = sig.parameters.length)
    (has : (Value.ref a :: argsL).toArray = as') (hW : (rest.map fun v => v.category).sum ≤ W) (hd : decode c.code pc = .ok (.invokespecial index, 3)) (eT : T.heap = h) (hcc : cells + rm.cells ≤ R.cells) (hss : slots + rm.slots ≤ R.slots) {P : Outcome → State → Prop}
    (k : ∀ T' L v, Stand p l e R s m args below meth c T' (locs ++ L) (cells + rm.cells) (slots + rm.slots) → Q v T'.heap L → Own.Fin p e below (T'.setTop (mkF m (pc + 3) ls (v.toList ++ rest))) P) :
    Own.Fin p e below (T.setTop (mkF m pc ls (argsL.reverse ++ .ref a :: rest))) P := by
  obtain ⟨v, _, ⟨T', L', k', n'⟩, -, X', ⟨L, hQ, e1, e2, e3⟩, st⟩ := superBack X hx hZ (y := y) hown w1 (own_same w5 hcl w2 hy) w2 w6 hn (backOf (W := W) hM hZ w4 w3 hf hl) eT E (g := mkF m pc ls (argsL.reverse ++ .ref a :: rest)) rfl hsize w4 (argsL := argsL) (rest := rest) hlen rfl
    (by show 2 * 0 + _ ≤ _; omega) hd (fun _ _ => ⟨has, eT, hcc, hss⟩)
  dsimp only [Pt.U, Pt.locs, Pt.cells, Pt.slots] at X' e1 e2 e3 st hQ
  subst e1 e2 e3
  exact Own.go (fun t kt => st.trans kt) (k T' L v X' hQ)
theorem own_ac {Z : State} {a0 : Array Value} {h : Heap} (X : Stand p l e R s m args below meth c T locs cells slots) (hx : p.tables.exec = Jvm.exec) (hZ : Z.Warmed39 s.vm) {own : String} {index : Nat} (hown : s.vm.findClass own = some m.cls) (w1 : (Cond.methodLink own index acN).before a0 Z = true) (w2 : (Cond.native acN).before a0 Z = true) (w3 : (Cond.static acN).before a0 Z = true) (w4 : (Cond.initialized "java/lang/System").before a0 Z = true) (eT : T.heap = h)
    {a b : Addr} {kA kB : ClassId} {za zb : Int32} {NA NB n : Nat} {ga gb : Nat → Value} {dv : Value} (VA : Arv Z h a kA .byte za (tab NA ga) dv) (VB : Arv Z h b kB .byte zb (tab NB gb) dv) (ha : za = Int32.ofNat NA) (hb : zb = Int32.ofNat NB) (hNA : NA < 2147483648) (hNB : NB < 2147483648) (h4 : n ≤ NA) (h5 : n ≤ NB) {jn : Int32} (hn : jn = Int32.ofNat n)
    {pc : Nat} {ls : Array Slot} {rest : List Value} (hsize : ls.size = c.maxLocals) (hd : decode c.code pc = .ok (.invokestatic index, 3)) {W : Nat} (hW : (rest.map fun v => v.category).sum ≤ W) (hfr : 1 ≤ R.frames) (hlo : W + 40 ≤ R.locals) {P : Outcome → State → Prop}
    (k : ∀ T' h', Stand p l e R s m args below meth c T' (locs ++ copyLocs b 0 n) cells slots → T'.heap = h' → Keep h h' [b] → Arv Z h' b kB .byte zb (tab NB (fun i => if i < n then ga i else gb i)) dv → Own.Fin p e below (T'.setTop (mkF m (pc + 3) ls rest)) P) :
    Own.Fin p e below (T.setTop (mkF m pc ls (.int jn :: .int (0 : Int32) :: .ref b :: .int (0 : Int32) :: .ref a :: rest))) P := by
  obtain ⟨A, ⟨a1, a2, a3⟩, qa, Sa, Na, Ha, Ga⟩ := VA
  obtain ⟨B, ⟨b1, b2, b3⟩, qb, Sb, Nb, Hb, Gb⟩ := VB
  have sa : A.slots.size = NA := by rw [Sa, ha]; exact clamp_n NA hNA
  have sbz : B.slots.size = NB := by rw [Sb, hb]; exact clamp_n NB hNB
  have hal : Z.vm.Alike T.vm := hZ.alike.trans X.warmed.alike
  have hgA : ∀ i, i < n → A.slots.getD i .null = ga i := fun i hi => by
    have q := Ha i (by omega)
    rw [tab_getD (by omega)] at q
    obtain ⟨q1, q2⟩ := Array.getElem?_eq_some_iff.mp q
    simp [Array.getD, q1, q2]
  obtain ⟨T', B', X', hput, c1, c2, c3, hs, st⟩ := X.acopy hx hown (fun w hw => by
    simp only [Jvm.Free.XT.acW, List.mem_cons, List.not_mem_nil, or_false] at hw
    rcases hw with rfl | rfl | rfl | rfl
    · exact mvT hZ w1
    · exact mvT hZ w2
    · exact mvT hZ w3
    · exact mvT hZ w4) (ts := .byte) (t := .byte) (a := a) (b := b) (A := A) (B := B) ⟨by rw [eT]; exact a1, State.isArrayOf_alike hal a2, a3, by omega⟩ ⟨by rw [eT]; exact b1, State.isArrayOf_alike hal b2, b3, by omega⟩ (by decide) (o := 0) (q := 0) (n := n) (jo := 0) (jq := 0) (jn := jn) rfl rfl hn (by omega) (by omega)
    (fun i hi => ⟨by
      have q := Ga i (by omega)
      rw [tab_getD (by omega)] at q
      rw [Nat.zero_add, hgA i hi]; exact q, fun q => by cases q⟩) (g := mkF m pc ls (.int jn :: .int (0 : Int32) :: .ref b :: .int (0 : Int32) :: .ref a :: rest)) rfl hsize (rest := rest) rfl hd (W := W) (by show 2 * 0 + _ ≤ _; omega) hfr hlo
  subst eT
  refine Own.go st (k T' _ X' rfl ⟨Nat.le_of_eq hput.2.2.symm, fun x cx hx' hne => ?_, fun x cx hx' => ?_⟩ ⟨B', ⟨hput.1, ?_, by rw [c2]; exact b3⟩, c1.trans qb, by rw [c3]; exact Sb, Nb, fun i hi => ?_, fun i hi => ?_⟩)
  · exact hput.other (fun q => hne (by rw [q]; exact List.mem_cons_self ..)) hx'
  · by_cases hq : x = b
    · subst hq; cases b1.symm.trans hx'; exact ⟨B', hput.1, c1, c2, c3⟩
    · exact ⟨cx, hput.other hq hx', rfl, rfl, rfl⟩
  · obtain ⟨q1, kk, q2, q3⟩ := b2
    exact ⟨by rw [c2]; exact q1, kk, by rw [c1]; exact q2, q3⟩
  · have hiN : i < NB := by omega
    rw [hs i, tab_getD hiN]
    by_cases q : i < n
    · rw [if_pos ⟨Nat.zero_le _, by omega⟩, if_pos q, Nat.sub_zero, Nat.zero_add, hgA i q]
    · have hbq := Hb i (by omega)
      rw [tab_getD hiN] at hbq
      rw [if_neg (fun z => q (by omega)), if_neg q, hbq]
  · have hiN : i < NB := by omega
    rw [tab_getD hiN]
    by_cases q : i < n
    · have z := Ga i (by omega)
      rw [tab_getD (by omega)] at z
      rw [if_pos q]; exact z
    · have z := Gb i (by omega)
      rw [tab_getD hiN] at z
      rw [if_neg q]; exact z
end
theorem own_frc {n0 b n : Nat} (h : n0 ≤ b) : Fr n0 (copyLocs b 0 n) := fun y hy => by
  obtain ⟨i, -, rfl⟩ := List.mem_map.mp hy
  exact h
theorem d13_0 : decode jdk_41_method_12_code 0 = .ok (.iload_n 0, 1) := by decide +kernel
theorem d13_1 : decode jdk_41_method_12_code 1 = .ok (.ifCond .lt 13, 3) := by decide +kernel
theorem d13_4 : decode jdk_41_method_12_code 4 = .ok (.iload_n 0, 1) := by decide +kernel
theorem d13_5 : decode jdk_41_method_12_code 5 = .ok (.iload_n 1, 1) := by decide +kernel
theorem d13_6 : decode jdk_41_method_12_code 6 = .ok (.if_icmp .gt 8, 3) := by decide +kernel
theorem d13_9 : decode jdk_41_method_12_code 9 = .ok (.iload_n 1, 1) := by decide +kernel
theorem d13_10 : decode jdk_41_method_12_code 10 = .ok (.iload_n 2, 1) := by decide +kernel
theorem d13_11 : decode jdk_41_method_12_code 11 = .ok (.if_icmp .le 11, 3) := by decide +kernel
theorem d13_22 : decode jdk_41_method_12_code 22 = .ok (.iload_n 0, 1) := by decide +kernel
theorem d13_23 : decode jdk_41_method_12_code 23 = .ok (.ireturn, 1) := by decide +kernel
theorem pn_13 : plainName "jdk/internal/util/Preconditions" = true := by first | (simp [plainName, overriddenIn]; done) | decide +kernel
theorem ef_13 (m : MethodId) (p1 : Int32) (p2 : Int32) (p3 : Int32) (fv : Value) (hc_fv : fv.category = 1) : entryFrame m #[(.int p1), (.int p2), (.int p3), fv] 4 = mkF m 0 #[.val (.int p1), .val (.int p2), .val (.int p3), .val fv] [] := by cases fv <;> first | (simp [entryFrame, mkF, argsToLocals, Value.category]; done) | rfl | exact absurd hc_fv (by simp [Value.category])
def Q13 (Z : State) (p1 : Int32) (p2 : Int32) (p3 : Int32) (fv : Value)  (h0 : Heap) (n0 : Nat) : Option Value → Heap → List Loc → Prop := fun v h L => v = some (.int p1) ∧ Fr n0 L ∧ h = h0
set_option maxRecDepth 65536 in
set_option maxHeartbeats 40000000 in
theorem rm13 (l : Launch) (Z : State) (a0 : Array Value) (hw : ∀ d ∈ tables_1, d.before a0 Z = true) (ws : List Jvm.Cond) (p1 : Int32) (p2 : Int32) (p3 : Int32) (fv : Value)  (h0 : Heap) (n0 : Nat) (Z0 : n0 ≤ h0.size) (hc_fv : fv.category = 1) (hp1 : ¬ p1 < (0 : Int32)) (hp2 : ¬ p2 < p1) (hp3 : ¬ p3 < p2) :
    MetFree l (⟨"jdk/internal/util/Preconditions", "checkFromToIndex", "(IIILjava/util/function/BiFunction;)I"⟩ : MethodName) (head1 (Jvm.Cond.code (⟨"jdk/internal/util/Preconditions", "checkFromToIndex", "(IIILjava/util/function/BiFunction;)I"⟩ : MethodName) jdk_41_method_12_code 4 (some .int) :: ws) ({ frames := 0, cells := 0, slots := 0, locals := 0 } : Room)) (fun a U => a = #[(.int p1), (.int p2), (.int p3), fv] ∧ Z.Warmed39 U.vm ∧ U.heap = h0) (fun _ _ _ _ _ => True) (fun _ U o U' => ∃ v L, o = .returned v ∧ (Q13 Z p1 p2 p3 fv h0 n0) v U'.heap L ∧ FrameEnd U o U' L ({ frames := 0, cells := 0, slots := 0, locals := 0 } : Room).cells ({ frames := 0, cells := 0, slots := 0, locals := 0 } : Room).slots) := by
  refine MetFree.of_bodySF (plainFor_of_name pn_13) hisR ?_
  intro p e s m args below meth c s₁ Bd hml0 hP hK
  obtain ⟨rfl, hZ, hh⟩ := hP
  have hx := Bd.exec
  have hby := Bd.bytes
  have hml : c.maxLocals = 4 := hml0
  have hown : s.vm.findClass "jdk/internal/util/Preconditions" = some m.cls := findClass_of_methodNamed Bd.named
  have hnm := (name_of_methodNamed Bd.named Bd.method).1
  have X0 : Stand p l e ({ frames := 0, cells := 0, slots := 0, locals := 0 } : Room) s m #[(.int p1), (.int p2), (.int p3), fv] below meth c s₁ [] 0 0 := Stand.of_body Bd
  have e0 : s₁.heap = h0 := by rw [← hh, Bd.state]; rfl
  have N0 := Fr.nil n0
  show Own.Fin p e below _ (Own.Post s (Q13 Z p1 p2 p3 fv h0 n0) ({ frames := 0, cells := 0, slots := 0, locals := 0 } : Room).cells ({ frames := 0, cells := 0, slots := 0, locals := 0 } : Room).slots)
  refine Own.start (ef_13 m p1 p2 p3 fv hc_fv) ?_
  show Own.Fin p e below (s₁.setTop (mkF m 0 #[.val (.int p1), .val (.int p2), .val (.int p3), .val fv] [])) _
  refine Own.go (fun t k => XS.iloadN X0.here hx rfl (hb hby d13_0) rfl k) ?_
  show Own.Fin p e below (s₁.setTop (mkF m 1 #[.val (.int p1), .val (.int p2), .val (.int p3), .val fv] [(.int p1)])) _
  have hc1_0 : ¬ (p1 < (0 : Int32)) := hp1
  refine Own.go (fun t k => XS.ifNo X0.here hx rfl (hb hby d13_1) rfl ((if0 _ _).trans (flt hc1_0).1) k) ?_
  show Own.Fin p e below (s₁.setTop (mkF m 4 #[.val (.int p1), .val (.int p2), .val (.int p3), .val fv] [])) _
  refine Own.go (fun t k => XS.iloadN X0.here hx rfl (hb hby d13_4) rfl k) ?_
  show Own.Fin p e below (s₁.setTop (mkF m 5 #[.val (.int p1), .val (.int p2), .val (.int p3), .val fv] [(.int p1)])) _
  refine Own.go (fun t k => XS.iloadN X0.here hx rfl (hb hby d13_5) rfl k) ?_
  show Own.Fin p e below (s₁.setTop (mkF m 6 #[.val (.int p1), .val (.int p2), .val (.int p3), .val fv] [(.int p2), (.int p1)])) _
  have hc6_1 : ¬ (p2 < p1) := hp2
  refine Own.go (fun t k => XS.icmpNo X0.here hx rfl (hb hby d13_6) rfl (flt hc6_1).2.2.1 k) ?_
  show Own.Fin p e below (s₁.setTop (mkF m 9 #[.val (.int p1), .val (.int p2), .val (.int p3), .val fv] [])) _
  refine Own.go (fun t k => XS.iloadN X0.here hx rfl (hb hby d13_9) rfl k) ?_
  show Own.Fin p e below (s₁.setTop (mkF m 10 #[.val (.int p1), .val (.int p2), .val (.int p3), .val fv] [(.int p2)])) _
  refine Own.go (fun t k => XS.iloadN X0.here hx rfl (hb hby d13_10) rfl k) ?_
  show Own.Fin p e below (s₁.setTop (mkF m 11 #[.val (.int p1), .val (.int p2), .val (.int p3), .val fv] [(.int p3), (.int p2)])) _
  have hc11_2 : ¬ (p3 < p2) := hp3
  refine Own.go (fun t k => XS.icmpYes X0.here hx rfl (pc0 := 11) (pc' := 22) rfl (hb hby d13_11) rfl (flt hc11_2).2.2.2 (by decide) (by decide) k) ?_
  show Own.Fin p e below (s₁.setTop (mkF m 22 #[.val (.int p1), .val (.int p2), .val (.int p3), .val fv] [])) _
  refine Own.go (fun t k => XS.iloadN X0.here hx rfl (hb hby d13_22) rfl k) ?_
  show Own.Fin p e below (s₁.setTop (mkF m 23 #[.val (.int p1), .val (.int p2), .val (.int p3), .val fv] [(.int p1)])) _
  refine Own.retI X0 hx Bd.notSynchronized Bd.returns (hb hby d13_23) (by decide) (by decide) ?_
  exact ⟨rfl, N0, e0⟩
theorem d36_0 : decode jdk_41_method_11_code 0 = .ok (.iload_n 0, 1) := by decide +kernel
theorem d36_1 : decode jdk_41_method_11_code 1 = .ok (.ifCond .lt 8, 3) := by decide +kernel
theorem d36_4 : decode jdk_41_method_11_code 4 = .ok (.iload_n 0, 1) := by decide +kernel
theorem d36_5 : decode jdk_41_method_11_code 5 = .ok (.iload_n 1, 1) := by decide +kernel
theorem d36_6 : decode jdk_41_method_11_code 6 = .ok (.if_icmp .lt 10, 3) := by decide +kernel
theorem d36_16 : decode jdk_41_method_11_code 16 = .ok (.iload_n 0, 1) := by decide +kernel
theorem d36_17 : decode jdk_41_method_11_code 17 = .ok (.ireturn, 1) := by decide +kernel
theorem pn_36 : plainName "jdk/internal/util/Preconditions" = true := by first | (simp [plainName, overriddenIn]; done) | decide +kernel
theorem ef_36 (m : MethodId) (p1 : Int32) (p2 : Int32) (fv : Value) (hc_fv : fv.category = 1) : entryFrame m #[(.int p1), (.int p2), fv] 3 = mkF m 0 #[.val (.int p1), .val (.int p2), .val fv] [] := by cases fv <;> first | (simp [entryFrame, mkF, argsToLocals, Value.category]; done) | rfl | exact absurd hc_fv (by simp [Value.category])
def Q36 (Z : State) (p1 : Int32) (p2 : Int32) (fv : Value)  (h0 : Heap) (n0 : Nat) : Option Value → Heap → List Loc → Prop := fun v h L => v = some (.int p1) ∧ Fr n0 L ∧ h = h0
set_option maxRecDepth 65536 in
set_option maxHeartbeats 40000000 in
theorem rm36 (l : Launch) (Z : State) (a0 : Array Value) (hw : ∀ d ∈ tables_1, d.before a0 Z = true) (ws : List Jvm.Cond) (p1 : Int32) (p2 : Int32) (fv : Value)  (h0 : Heap) (n0 : Nat) (Z0 : n0 ≤ h0.size) (hc_fv : fv.category = 1) (hp1 : ¬ p1 < (0 : Int32)) (hp2 : p1 < p2) :
    MetFree l (⟨"jdk/internal/util/Preconditions", "checkIndex", "(IILjava/util/function/BiFunction;)I"⟩ : MethodName) (head1 (Jvm.Cond.code (⟨"jdk/internal/util/Preconditions", "checkIndex", "(IILjava/util/function/BiFunction;)I"⟩ : MethodName) jdk_41_method_11_code 3 (some .int) :: ws) ({ frames := 0, cells := 0, slots := 0, locals := 0 } : Room)) (fun a U => a = #[(.int p1), (.int p2), fv] ∧ Z.Warmed39 U.vm ∧ U.heap = h0) (fun _ _ _ _ _ => True) (fun _ U o U' => ∃ v L, o = .returned v ∧ (Q36 Z p1 p2 fv h0 n0) v U'.heap L ∧ FrameEnd U o U' L ({ frames := 0, cells := 0, slots := 0, locals := 0 } : Room).cells ({ frames := 0, cells := 0, slots := 0, locals := 0 } : Room).slots) := by
  refine MetFree.of_bodySF (plainFor_of_name pn_36) hisR ?_
  intro p e s m args below meth c s₁ Bd hml0 hP hK
  obtain ⟨rfl, hZ, hh⟩ := hP
  have hx := Bd.exec
  have hby := Bd.bytes
  have hml : c.maxLocals = 3 := hml0
  have hown : s.vm.findClass "jdk/internal/util/Preconditions" = some m.cls := findClass_of_methodNamed Bd.named
  have hnm := (name_of_methodNamed Bd.named Bd.method).1
  have X0 : Stand p l e ({ frames := 0, cells := 0, slots := 0, locals := 0 } : Room) s m #[(.int p1), (.int p2), fv] below meth c s₁ [] 0 0 := Stand.of_body Bd
  have e0 : s₁.heap = h0 := by rw [← hh, Bd.state]; rfl
  have N0 := Fr.nil n0
  show Own.Fin p e below _ (Own.Post s (Q36 Z p1 p2 fv h0 n0) ({ frames := 0, cells := 0, slots := 0, locals := 0 } : Room).cells ({ frames := 0, cells := 0, slots := 0, locals := 0 } : Room).slots)
  refine Own.start (ef_36 m p1 p2 fv hc_fv) ?_
  show Own.Fin p e below (s₁.setTop (mkF m 0 #[.val (.int p1), .val (.int p2), .val fv] [])) _
  refine Own.go (fun t k => XS.iloadN X0.here hx rfl (hb hby d36_0) rfl k) ?_
  show Own.Fin p e below (s₁.setTop (mkF m 1 #[.val (.int p1), .val (.int p2), .val fv] [(.int p1)])) _
  have hc1_0 : ¬ (p1 < (0 : Int32)) := hp1
  refine Own.go (fun t k => XS.ifNo X0.here hx rfl (hb hby d36_1) rfl ((if0 _ _).trans (flt hc1_0).1) k) ?_
  show Own.Fin p e below (s₁.setTop (mkF m 4 #[.val (.int p1), .val (.int p2), .val fv] [])) _
  refine Own.go (fun t k => XS.iloadN X0.here hx rfl (hb hby d36_4) rfl k) ?_
  show Own.Fin p e below (s₁.setTop (mkF m 5 #[.val (.int p1), .val (.int p2), .val fv] [(.int p1)])) _
  refine Own.go (fun t k => XS.iloadN X0.here hx rfl (hb hby d36_5) rfl k) ?_
  show Own.Fin p e below (s₁.setTop (mkF m 6 #[.val (.int p1), .val (.int p2), .val fv] [(.int p2), (.int p1)])) _
  have hc6_1 : p1 < p2 := hp2
  refine Own.go (fun t k => XS.icmpYes X0.here hx rfl (pc0 := 6) (pc' := 16) rfl (hb hby d36_6) rfl (tlt hc6_1).1 (by decide) (by decide) k) ?_
  show Own.Fin p e below (s₁.setTop (mkF m 16 #[.val (.int p1), .val (.int p2), .val fv] [])) _
  refine Own.go (fun t k => XS.iloadN X0.here hx rfl (hb hby d36_16) rfl k) ?_
  show Own.Fin p e below (s₁.setTop (mkF m 17 #[.val (.int p1), .val (.int p2), .val fv] [(.int p1)])) _
  refine Own.retI X0 hx Bd.notSynchronized Bd.returns (hb hby d36_17) (by decide) (by decide) ?_
  exact ⟨rfl, N0, e0⟩
theorem d45_0 : decode jdk_41_method_13_code 0 = .ok (.iload_n 2, 1) := by decide +kernel
theorem d45_1 : decode jdk_41_method_13_code 1 = .ok (.iload_n 0, 1) := by decide +kernel
theorem d45_2 : decode jdk_41_method_13_code 2 = .ok (.ior, 1) := by decide +kernel
theorem d45_3 : decode jdk_41_method_13_code 3 = .ok (.iload_n 1, 1) := by decide +kernel
theorem d45_4 : decode jdk_41_method_13_code 4 = .ok (.ior, 1) := by decide +kernel
theorem d45_5 : decode jdk_41_method_13_code 5 = .ok (.ifCond .lt 10, 3) := by decide +kernel
theorem d45_8 : decode jdk_41_method_13_code 8 = .ok (.iload_n 1, 1) := by decide +kernel
theorem d45_9 : decode jdk_41_method_13_code 9 = .ok (.iload_n 2, 1) := by decide +kernel
theorem d45_10 : decode jdk_41_method_13_code 10 = .ok (.iload_n 0, 1) := by decide +kernel
theorem d45_11 : decode jdk_41_method_13_code 11 = .ok (.isub, 1) := by decide +kernel
theorem d45_12 : decode jdk_41_method_13_code 12 = .ok (.if_icmp .le 11, 3) := by decide +kernel
theorem d45_23 : decode jdk_41_method_13_code 23 = .ok (.iload_n 0, 1) := by decide +kernel
theorem d45_24 : decode jdk_41_method_13_code 24 = .ok (.ireturn, 1) := by decide +kernel
theorem pn_45 : plainName "jdk/internal/util/Preconditions" = true := by first | (simp [plainName, overriddenIn]; done) | decide +kernel
theorem ef_45 (m : MethodId) (p1 : Int32) (p2 : Int32) (p3 : Int32) (fv : Value) (hc_fv : fv.category = 1) : entryFrame m #[(.int p1), (.int p2), (.int p3), fv] 4 = mkF m 0 #[.val (.int p1), .val (.int p2), .val (.int p3), .val fv] [] := by cases fv <;> first | (simp [entryFrame, mkF, argsToLocals, Value.category]; done) | rfl | exact absurd hc_fv (by simp [Value.category])
def Q45 (Z : State) (p1 : Int32) (p2 : Int32) (p3 : Int32) (fv : Value)  (h0 : Heap) (n0 : Nat) : Option Value → Heap → List Loc → Prop := fun v h L => v = some (.int p1) ∧ Fr n0 L ∧ h = h0
set_option maxRecDepth 65536 in
set_option maxHeartbeats 40000000 in
theorem rm45 (l : Launch) (Z : State) (a0 : Array Value) (hw : ∀ d ∈ tables_1, d.before a0 Z = true) (ws : List Jvm.Cond) (p1 : Int32) (p2 : Int32) (p3 : Int32) (fv : Value)  (h0 : Heap) (n0 : Nat) (Z0 : n0 ≤ h0.size) (hc_fv : fv.category = 1) (hp1 : ¬ ((p3 ||| p1) ||| p2) < (0 : Int32)) (hp2 : ¬ (p3 - p1) < p2) :
    MetFree l (⟨"jdk/internal/util/Preconditions", "checkFromIndexSize", "(IIILjava/util/function/BiFunction;)I"⟩ : MethodName) (head1 (Jvm.Cond.code (⟨"jdk/internal/util/Preconditions", "checkFromIndexSize", "(IIILjava/util/function/BiFunction;)I"⟩ : MethodName) jdk_41_method_13_code 4 (some .int) :: ws) ({ frames := 0, cells := 0, slots := 0, locals := 0 } : Room)) (fun a U => a = #[(.int p1), (.int p2), (.int p3), fv] ∧ Z.Warmed39 U.vm ∧ U.heap = h0) (fun _ _ _ _ _ => True) (fun _ U o U' => ∃ v L, o = .returned v ∧ (Q45 Z p1 p2 p3 fv h0 n0) v U'.heap L ∧ FrameEnd U o U' L ({ frames := 0, cells := 0, slots := 0, locals := 0 } : Room).cells ({ frames := 0, cells := 0, slots := 0, locals := 0 } : Room).slots) := by
  refine MetFree.of_bodySF (plainFor_of_name pn_45) hisR ?_
  intro p e s m args below meth c s₁ Bd hml0 hP hK
  obtain ⟨rfl, hZ, hh⟩ := hP
  have hx := Bd.exec
  have hby := Bd.bytes
  have hml : c.maxLocals = 4 := hml0
  have hown : s.vm.findClass "jdk/internal/util/Preconditions" = some m.cls := findClass_of_methodNamed Bd.named
  have hnm := (name_of_methodNamed Bd.named Bd.method).1
  have X0 : Stand p l e ({ frames := 0, cells := 0, slots := 0, locals := 0 } : Room) s m #[(.int p1), (.int p2), (.int p3), fv] below meth c s₁ [] 0 0 := Stand.of_body Bd
  have e0 : s₁.heap = h0 := by rw [← hh, Bd.state]; rfl
  have N0 := Fr.nil n0
  show Own.Fin p e below _ (Own.Post s (Q45 Z p1 p2 p3 fv h0 n0) ({ frames := 0, cells := 0, slots := 0, locals := 0 } : Room).cells ({ frames := 0, cells := 0, slots := 0, locals := 0 } : Room).slots)
  refine Own.start (ef_45 m p1 p2 p3 fv hc_fv) ?_
  show Own.Fin p e below (s₁.setTop (mkF m 0 #[.val (.int p1), .val (.int p2), .val (.int p3), .val fv] [])) _
  refine Own.go (fun t k => XS.iloadN X0.here hx rfl (hb hby d45_0) rfl k) ?_
  show Own.Fin p e below (s₁.setTop (mkF m 1 #[.val (.int p1), .val (.int p2), .val (.int p3), .val fv] [(.int p3)])) _
  refine Own.go (fun t k => XS.iloadN X0.here hx rfl (hb hby d45_1) rfl k) ?_
  show Own.Fin p e below (s₁.setTop (mkF m 2 #[.val (.int p1), .val (.int p2), .val (.int p3), .val fv] [(.int p1), (.int p3)])) _
  refine Own.go (fun t k => XS.ior X0.here hx rfl (hb hby d45_2) rfl k) ?_
  show Own.Fin p e below (s₁.setTop (mkF m 3 #[.val (.int p1), .val (.int p2), .val (.int p3), .val fv] [(.int (p3 ||| p1))])) _
  refine Own.go (fun t k => XS.iloadN X0.here hx rfl (hb hby d45_3) rfl k) ?_
  show Own.Fin p e below (s₁.setTop (mkF m 4 #[.val (.int p1), .val (.int p2), .val (.int p3), .val fv] [(.int p2), (.int (p3 ||| p1))])) _
  refine Own.go (fun t k => XS.ior X0.here hx rfl (hb hby d45_4) rfl k) ?_
  show Own.Fin p e below (s₁.setTop (mkF m 5 #[.val (.int p1), .val (.int p2), .val (.int p3), .val fv] [(.int ((p3 ||| p1) ||| p2))])) _
  have hc5_0 : ¬ (((p3 ||| p1) ||| p2) < (0 : Int32)) := hp1
  refine Own.go (fun t k => XS.ifNo X0.here hx rfl (hb hby d45_5) rfl ((if0 _ _).trans (flt hc5_0).1) k) ?_
  show Own.Fin p e below (s₁.setTop (mkF m 8 #[.val (.int p1), .val (.int p2), .val (.int p3), .val fv] [])) _
  refine Own.go (fun t k => XS.iloadN X0.here hx rfl (hb hby d45_8) rfl k) ?_
  show Own.Fin p e below (s₁.setTop (mkF m 9 #[.val (.int p1), .val (.int p2), .val (.int p3), .val fv] [(.int p2)])) _
  refine Own.go (fun t k => XS.iloadN X0.here hx rfl (hb hby d45_9) rfl k) ?_
  show Own.Fin p e below (s₁.setTop (mkF m 10 #[.val (.int p1), .val (.int p2), .val (.int p3), .val fv] [(.int p3), (.int p2)])) _
  refine Own.go (fun t k => XS.iloadN X0.here hx rfl (hb hby d45_10) rfl k) ?_
  show Own.Fin p e below (s₁.setTop (mkF m 11 #[.val (.int p1), .val (.int p2), .val (.int p3), .val fv] [(.int p1), (.int p3), (.int p2)])) _
  refine Own.go (fun t k => XS.isub X0.here hx rfl (hb hby d45_11) rfl k) ?_
  show Own.Fin p e below (s₁.setTop (mkF m 12 #[.val (.int p1), .val (.int p2), .val (.int p3), .val fv] [(.int (p3 - p1)), (.int p2)])) _
  have hc12_1 : ¬ ((p3 - p1) < p2) := hp2
  refine Own.go (fun t k => XS.icmpYes X0.here hx rfl (pc0 := 12) (pc' := 23) rfl (hb hby d45_12) rfl (flt hc12_1).2.2.2 (by decide) (by decide) k) ?_
  show Own.Fin p e below (s₁.setTop (mkF m 23 #[.val (.int p1), .val (.int p2), .val (.int p3), .val fv] [])) _
  refine Own.go (fun t k => XS.iloadN X0.here hx rfl (hb hby d45_23) rfl k) ?_
  show Own.Fin p e below (s₁.setTop (mkF m 24 #[.val (.int p1), .val (.int p2), .val (.int p3), .val fv] [(.int p1)])) _
  refine Own.retI X0 hx Bd.notSynchronized Bd.returns (hb hby d45_24) (by decide) (by decide) ?_
  exact ⟨rfl, N0, e0⟩
theorem d35_0 : decode jdk_42_method_155_code 0 = .ok (.iload_n 0, 1) := by decide +kernel
theorem d35_1 : decode jdk_42_method_155_code 1 = .ok (.iload_n 1, 1) := by decide +kernel
theorem d35_2 : decode jdk_42_method_155_code 2 = .ok (.getstatic 1053, 3) := by decide +kernel
theorem d35_5 : decode jdk_42_method_155_code 5 = .ok (.invokestatic 1059, 3) := by decide +kernel
theorem d35_8 : decode jdk_42_method_155_code 8 = .ok (.pop, 1) := by decide +kernel
theorem d35_9 : decode jdk_42_method_155_code 9 = .ok (.return_, 1) := by decide +kernel
theorem pd_0 : parseMethodDescriptor "(IILjava/util/function/BiFunction;)I" = some ⟨[.int, .int, (.object "java/util/function/BiFunction")], some .int⟩ := by decide +kernel
theorem pn_35 : plainName "java/lang/String" = true := by first | (simp [plainName, overriddenIn]; done) | decide +kernel
theorem ef_35 (m : MethodId) (p1 : Int32) (p2 : Int32)  : entryFrame m #[(.int p1), (.int p2)] 2 = mkF m 0 #[.val (.int p1), .val (.int p2)] [] := by first | (simp [entryFrame, mkF, argsToLocals, Value.category]; done) | rfl
def Q35 (Z : State) (p1 : Int32) (p2 : Int32) (fs_ : Value) (h0 : Heap) (n0 : Nat) : Option Value → Heap → List Loc → Prop := fun v h L => v = none ∧ Fr n0 L ∧ h = h0
set_option maxRecDepth 65536 in
set_option maxHeartbeats 40000000 in
theorem rm35 (l : Launch) (Z : State) (a0 : Array Value) (hw : ∀ d ∈ tables_1, d.before a0 Z = true) (ws : List Jvm.Cond) (p1 : Int32) (p2 : Int32) (fs_ : Value) (h0 : Heap) (n0 : Nat) (Z0 : n0 ≤ h0.size) (O0 : Old Z n0 h0) (SF : Sta Z Z.heap "jdk/internal/util/Preconditions" "SIOOBE_FORMATTER" "Ljava/util/function/BiFunction;" fs_) (hc_s : fs_.category = 1) (hp1 : ¬ p1 < (0 : Int32)) (hp2 : p1 < p2) :
    MetFree l (⟨"java/lang/String", "checkIndex", "(II)V"⟩ : MethodName) (head1 (Jvm.Cond.code (⟨"java/lang/String", "checkIndex", "(II)V"⟩ : MethodName) jdk_42_method_155_code 2 none :: ws) ({ frames := 1, cells := 0, slots := 0, locals := 30 } : Room)) (fun a U => a = #[(.int p1), (.int p2)] ∧ Z.Warmed39 U.vm ∧ U.heap = h0) (fun _ _ _ _ _ => True) (fun _ U o U' => ∃ v L, o = .returned v ∧ (Q35 Z p1 p2 fs_ h0 n0) v U'.heap L ∧ FrameEnd U o U' L ({ frames := 1, cells := 0, slots := 0, locals := 30 } : Room).cells ({ frames := 1, cells := 0, slots := 0, locals := 30 } : Room).slots) := by
  refine MetFree.of_bodySF (plainFor_of_name pn_35) hisR ?_
  intro p e s m args below meth c s₁ Bd hml0 hP hK
  obtain ⟨rfl, hZ, hh⟩ := hP
  have hx := Bd.exec
  have hby := Bd.bytes
  have hml : c.maxLocals = 2 := hml0
  have hown : s.vm.findClass "java/lang/String" = some m.cls := findClass_of_methodNamed Bd.named
  have hnm := (name_of_methodNamed Bd.named Bd.method).1
  have X0 : Stand p l e ({ frames := 1, cells := 0, slots := 0, locals := 30 } : Room) s m #[(.int p1), (.int p2)] below meth c s₁ [] 0 0 := Stand.of_body Bd
  have e0 : s₁.heap = h0 := by rw [← hh, Bd.state]; rfl
  have N0 := Fr.nil n0
  show Own.Fin p e below _ (Own.Post s (Q35 Z p1 p2 fs_ h0 n0) ({ frames := 1, cells := 0, slots := 0, locals := 30 } : Room).cells ({ frames := 1, cells := 0, slots := 0, locals := 30 } : Room).slots)
  refine Own.start (ef_35 m p1 p2) ?_
  show Own.Fin p e below (s₁.setTop (mkF m 0 #[.val (.int p1), .val (.int p2)] [])) _
  refine Own.go (fun t k => XS.iloadN X0.here hx rfl (hb hby d35_0) rfl k) ?_
  show Own.Fin p e below (s₁.setTop (mkF m 1 #[.val (.int p1), .val (.int p2)] [(.int p1)])) _
  refine Own.go (fun t k => XS.iloadN X0.here hx rfl (hb hby d35_1) rfl k) ?_
  show Own.Fin p e below (s₁.setTop (mkF m 2 #[.val (.int p1), .val (.int p2)] [(.int p2), (.int p1)])) _
  obtain ⟨T1, X1, e1, st1⟩ := getS2 X0 hx hZ hown (host := "") (Or.inl (hw _ (List.mem_of_getElem? (i := 214) rfl))) Via.refl e0 (SF.ext O0.2) (g := (mkF m 2 #[.val (.int p1), .val (.int p2)] [(.int p2), (.int p1)])) rfl (hb hby d35_2)
  refine Own.go st1 ?_
  show Own.Fin p e below (T1.setTop (mkF m 5 #[.val (.int p1), .val (.int p2)] [fs_, (.int p2), (.int p1)])) _
  refine Own.cS X1 hx hZ hown (hw _ (List.mem_of_getElem? (i := 215) rfl)) (hw _ (List.mem_of_getElem? (i := 216) rfl)) (hw _ (List.mem_of_getElem? (i := 104) rfl)) (hw _ (List.mem_of_getElem? (i := 217) rfl)) (by decide) (rm36 l Z a0 hw [] p1 p2 fs_ h0 n0 Z0 hc_s hp1 hp2) (by decide) (W := 0) (by decide) (argsL := [(.int p1), (.int p2), fs_]) (rest := []) (by rw [hml]; rfl) (lenOf pd_0 rfl) rfl (Nat.le_of_eq rfl) (hb hby d35_5) e1 (by decide) (by decide) ?_
  intro T2 L2 v2 X2 hQ2
  obtain ⟨rfl, N2q, e2⟩ := hQ2
  have N2 := Fr.app N0 N2q
  show Own.Fin p e below (T2.setTop (mkF m 8 #[.val (.int p1), .val (.int p2)] [(.int p1)])) _
  refine Own.go (fun t k => XS.pop X2.here hx rfl (hb hby d35_8) rfl rfl k) ?_
  show Own.Fin p e below (T2.setTop (mkF m 9 #[.val (.int p1), .val (.int p2)] [])) _
  refine Own.retV X2 hx Bd.notSynchronized Bd.returns (hb hby d35_9) (by decide) (by decide) ?_
  exact ⟨rfl, N2, e2⟩
theorem d44_0 : decode jdk_42_method_157_code 0 = .ok (.iload_n 0, 1) := by decide +kernel
theorem d44_1 : decode jdk_42_method_157_code 1 = .ok (.iload_n 1, 1) := by decide +kernel
theorem d44_2 : decode jdk_42_method_157_code 2 = .ok (.iload_n 2, 1) := by decide +kernel
theorem d44_3 : decode jdk_42_method_157_code 3 = .ok (.getstatic 1053, 3) := by decide +kernel
theorem d44_6 : decode jdk_42_method_157_code 6 = .ok (.invokestatic 1065, 3) := by decide +kernel
theorem d44_9 : decode jdk_42_method_157_code 9 = .ok (.ireturn, 1) := by decide +kernel
theorem pd_1 : parseMethodDescriptor "(IIILjava/util/function/BiFunction;)I" = some ⟨[.int, .int, .int, (.object "java/util/function/BiFunction")], some .int⟩ := by decide +kernel
theorem pn_44 : plainName "java/lang/String" = true := by first | (simp [plainName, overriddenIn]; done) | decide +kernel
theorem ef_44 (m : MethodId) (p1 : Int32) (p2 : Int32) (p3 : Int32)  : entryFrame m #[(.int p1), (.int p2), (.int p3)] 3 = mkF m 0 #[.val (.int p1), .val (.int p2), .val (.int p3)] [] := by first | (simp [entryFrame, mkF, argsToLocals, Value.category]; done) | rfl
def Q44 (Z : State) (p1 : Int32) (p2 : Int32) (p3 : Int32) (fs_ : Value) (h0 : Heap) (n0 : Nat) : Option Value → Heap → List Loc → Prop := fun v h L => v = some (.int p1) ∧ Fr n0 L ∧ h = h0
set_option maxRecDepth 65536 in
set_option maxHeartbeats 40000000 in
theorem rm44 (l : Launch) (Z : State) (a0 : Array Value) (hw : ∀ d ∈ tables_1, d.before a0 Z = true) (ws : List Jvm.Cond) (p1 : Int32) (p2 : Int32) (p3 : Int32) (fs_ : Value) (h0 : Heap) (n0 : Nat) (Z0 : n0 ≤ h0.size) (O0 : Old Z n0 h0) (SF : Sta Z Z.heap "jdk/internal/util/Preconditions" "SIOOBE_FORMATTER" "Ljava/util/function/BiFunction;" fs_) (hc_s : fs_.category = 1) (hp1 : ¬ ((p3 ||| p1) ||| p2) < (0 : Int32)) (hp2 : ¬ (p3 - p1) < p2) :
    MetFree l (⟨"java/lang/String", "checkBoundsOffCount", "(III)I"⟩ : MethodName) (head1 (Jvm.Cond.code (⟨"java/lang/String", "checkBoundsOffCount", "(III)I"⟩ : MethodName) jdk_42_method_157_code 3 (some .int) :: ws) ({ frames := 1, cells := 0, slots := 0, locals := 30 } : Room)) (fun a U => a = #[(.int p1), (.int p2), (.int p3)] ∧ Z.Warmed39 U.vm ∧ U.heap = h0) (fun _ _ _ _ _ => True) (fun _ U o U' => ∃ v L, o = .returned v ∧ (Q44 Z p1 p2 p3 fs_ h0 n0) v U'.heap L ∧ FrameEnd U o U' L ({ frames := 1, cells := 0, slots := 0, locals := 30 } : Room).cells ({ frames := 1, cells := 0, slots := 0, locals := 30 } : Room).slots) := by
  refine MetFree.of_bodySF (plainFor_of_name pn_44) hisR ?_
  intro p e s m args below meth c s₁ Bd hml0 hP hK
  obtain ⟨rfl, hZ, hh⟩ := hP
  have hx := Bd.exec
  have hby := Bd.bytes
  have hml : c.maxLocals = 3 := hml0
  have hown : s.vm.findClass "java/lang/String" = some m.cls := findClass_of_methodNamed Bd.named
  have hnm := (name_of_methodNamed Bd.named Bd.method).1
  have X0 : Stand p l e ({ frames := 1, cells := 0, slots := 0, locals := 30 } : Room) s m #[(.int p1), (.int p2), (.int p3)] below meth c s₁ [] 0 0 := Stand.of_body Bd
  have e0 : s₁.heap = h0 := by rw [← hh, Bd.state]; rfl
  have N0 := Fr.nil n0
  show Own.Fin p e below _ (Own.Post s (Q44 Z p1 p2 p3 fs_ h0 n0) ({ frames := 1, cells := 0, slots := 0, locals := 30 } : Room).cells ({ frames := 1, cells := 0, slots := 0, locals := 30 } : Room).slots)
  refine Own.start (ef_44 m p1 p2 p3) ?_
  show Own.Fin p e below (s₁.setTop (mkF m 0 #[.val (.int p1), .val (.int p2), .val (.int p3)] [])) _
  refine Own.go (fun t k => XS.iloadN X0.here hx rfl (hb hby d44_0) rfl k) ?_
  show Own.Fin p e below (s₁.setTop (mkF m 1 #[.val (.int p1), .val (.int p2), .val (.int p3)] [(.int p1)])) _
  refine Own.go (fun t k => XS.iloadN X0.here hx rfl (hb hby d44_1) rfl k) ?_
  show Own.Fin p e below (s₁.setTop (mkF m 2 #[.val (.int p1), .val (.int p2), .val (.int p3)] [(.int p2), (.int p1)])) _
  refine Own.go (fun t k => XS.iloadN X0.here hx rfl (hb hby d44_2) rfl k) ?_
  show Own.Fin p e below (s₁.setTop (mkF m 3 #[.val (.int p1), .val (.int p2), .val (.int p3)] [(.int p3), (.int p2), (.int p1)])) _
  obtain ⟨T1, X1, e1, st1⟩ := getS2 X0 hx hZ hown (host := "") (Or.inl (hw _ (List.mem_of_getElem? (i := 214) rfl))) Via.refl e0 (SF.ext O0.2) (g := (mkF m 3 #[.val (.int p1), .val (.int p2), .val (.int p3)] [(.int p3), (.int p2), (.int p1)])) rfl (hb hby d44_3)
  refine Own.go st1 ?_
  show Own.Fin p e below (T1.setTop (mkF m 6 #[.val (.int p1), .val (.int p2), .val (.int p3)] [fs_, (.int p3), (.int p2), (.int p1)])) _
  refine Own.cS X1 hx hZ hown (hw _ (List.mem_of_getElem? (i := 246) rfl)) (hw _ (List.mem_of_getElem? (i := 247) rfl)) (hw _ (List.mem_of_getElem? (i := 104) rfl)) (hw _ (List.mem_of_getElem? (i := 248) rfl)) (by decide) (rm45 l Z a0 hw [] p1 p2 p3 fs_ h0 n0 Z0 hc_s hp1 hp2) (by decide) (W := 0) (by decide) (argsL := [(.int p1), (.int p2), (.int p3), fs_]) (rest := []) (by rw [hml]; rfl) (lenOf pd_1 rfl) rfl (Nat.le_of_eq rfl) (hb hby d44_6) e1 (by decide) (by decide) ?_
  intro T2 L2 v2 X2 hQ2
  obtain ⟨rfl, N2q, e2⟩ := hQ2
  have N2 := Fr.app N0 N2q
  show Own.Fin p e below (T2.setTop (mkF m 9 #[.val (.int p1), .val (.int p2), .val (.int p3)] [(.int p1)])) _
  refine Own.retI X2 hx Bd.notSynchronized Bd.returns (hb hby d44_9) (by decide) (by decide) ?_
  exact ⟨rfl, N2, e2⟩
theorem d48_0 : decode jdk_42_method_158_code 0 = .ok (.iload_n 0, 1) := by decide +kernel
theorem d48_1 : decode jdk_42_method_158_code 1 = .ok (.iload_n 1, 1) := by decide +kernel
theorem d48_2 : decode jdk_42_method_158_code 2 = .ok (.iload_n 2, 1) := by decide +kernel
theorem d48_3 : decode jdk_42_method_158_code 3 = .ok (.getstatic 1053, 3) := by decide +kernel
theorem d48_6 : decode jdk_42_method_158_code 6 = .ok (.invokestatic 1062, 3) := by decide +kernel
theorem d48_9 : decode jdk_42_method_158_code 9 = .ok (.pop, 1) := by decide +kernel
theorem d48_10 : decode jdk_42_method_158_code 10 = .ok (.return_, 1) := by decide +kernel
theorem pn_48 : plainName "java/lang/String" = true := by first | (simp [plainName, overriddenIn]; done) | decide +kernel
theorem ef_48 (m : MethodId) (p1 : Int32) (p2 : Int32) (p3 : Int32)  : entryFrame m #[(.int p1), (.int p2), (.int p3)] 3 = mkF m 0 #[.val (.int p1), .val (.int p2), .val (.int p3)] [] := by first | (simp [entryFrame, mkF, argsToLocals, Value.category]; done) | rfl
def Q48 (Z : State) (p1 : Int32) (p2 : Int32) (p3 : Int32) (fs_ : Value) (h0 : Heap) (n0 : Nat) : Option Value → Heap → List Loc → Prop := fun v h L => v = none ∧ Fr n0 L ∧ h = h0
set_option maxRecDepth 65536 in
set_option maxHeartbeats 40000000 in
theorem rm48 (l : Launch) (Z : State) (a0 : Array Value) (hw : ∀ d ∈ tables_1, d.before a0 Z = true) (ws : List Jvm.Cond) (p1 : Int32) (p2 : Int32) (p3 : Int32) (fs_ : Value) (h0 : Heap) (n0 : Nat) (Z0 : n0 ≤ h0.size) (O0 : Old Z n0 h0) (SF : Sta Z Z.heap "jdk/internal/util/Preconditions" "SIOOBE_FORMATTER" "Ljava/util/function/BiFunction;" fs_) (hc_s : fs_.category = 1) (hp1 : ¬ p1 < (0 : Int32)) (hp2 : ¬ p2 < p1) (hp3 : ¬ p3 < p2) :
    MetFree l (⟨"java/lang/String", "checkBoundsBeginEnd", "(III)V"⟩ : MethodName) (head1 (Jvm.Cond.code (⟨"java/lang/String", "checkBoundsBeginEnd", "(III)V"⟩ : MethodName) jdk_42_method_158_code 3 none :: ws) ({ frames := 1, cells := 0, slots := 0, locals := 30 } : Room)) (fun a U => a = #[(.int p1), (.int p2), (.int p3)] ∧ Z.Warmed39 U.vm ∧ U.heap = h0) (fun _ _ _ _ _ => True) (fun _ U o U' => ∃ v L, o = .returned v ∧ (Q48 Z p1 p2 p3 fs_ h0 n0) v U'.heap L ∧ FrameEnd U o U' L ({ frames := 1, cells := 0, slots := 0, locals := 30 } : Room).cells ({ frames := 1, cells := 0, slots := 0, locals := 30 } : Room).slots) := by
  refine MetFree.of_bodySF (plainFor_of_name pn_48) hisR ?_
  intro p e s m args below meth c s₁ Bd hml0 hP hK
  obtain ⟨rfl, hZ, hh⟩ := hP
  have hx := Bd.exec
  have hby := Bd.bytes
  have hml : c.maxLocals = 3 := hml0
  have hown : s.vm.findClass "java/lang/String" = some m.cls := findClass_of_methodNamed Bd.named
  have hnm := (name_of_methodNamed Bd.named Bd.method).1
  have X0 : Stand p l e ({ frames := 1, cells := 0, slots := 0, locals := 30 } : Room) s m #[(.int p1), (.int p2), (.int p3)] below meth c s₁ [] 0 0 := Stand.of_body Bd
  have e0 : s₁.heap = h0 := by rw [← hh, Bd.state]; rfl
  have N0 := Fr.nil n0
  show Own.Fin p e below _ (Own.Post s (Q48 Z p1 p2 p3 fs_ h0 n0) ({ frames := 1, cells := 0, slots := 0, locals := 30 } : Room).cells ({ frames := 1, cells := 0, slots := 0, locals := 30 } : Room).slots)
  refine Own.start (ef_48 m p1 p2 p3) ?_
  show Own.Fin p e below (s₁.setTop (mkF m 0 #[.val (.int p1), .val (.int p2), .val (.int p3)] [])) _
  refine Own.go (fun t k => XS.iloadN X0.here hx rfl (hb hby d48_0) rfl k) ?_
  show Own.Fin p e below (s₁.setTop (mkF m 1 #[.val (.int p1), .val (.int p2), .val (.int p3)] [(.int p1)])) _
  refine Own.go (fun t k => XS.iloadN X0.here hx rfl (hb hby d48_1) rfl k) ?_
  show Own.Fin p e below (s₁.setTop (mkF m 2 #[.val (.int p1), .val (.int p2), .val (.int p3)] [(.int p2), (.int p1)])) _
  refine Own.go (fun t k => XS.iloadN X0.here hx rfl (hb hby d48_2) rfl k) ?_
  show Own.Fin p e below (s₁.setTop (mkF m 3 #[.val (.int p1), .val (.int p2), .val (.int p3)] [(.int p3), (.int p2), (.int p1)])) _
  obtain ⟨T1, X1, e1, st1⟩ := getS2 X0 hx hZ hown (host := "") (Or.inl (hw _ (List.mem_of_getElem? (i := 214) rfl))) Via.refl e0 (SF.ext O0.2) (g := (mkF m 3 #[.val (.int p1), .val (.int p2), .val (.int p3)] [(.int p3), (.int p2), (.int p1)])) rfl (hb hby d48_3)
  refine Own.go st1 ?_
  show Own.Fin p e below (T1.setTop (mkF m 6 #[.val (.int p1), .val (.int p2), .val (.int p3)] [fs_, (.int p3), (.int p2), (.int p1)])) _
  refine Own.cS X1 hx hZ hown (hw _ (List.mem_of_getElem? (i := 258) rfl)) (hw _ (List.mem_of_getElem? (i := 107) rfl)) (hw _ (List.mem_of_getElem? (i := 104) rfl)) (hw _ (List.mem_of_getElem? (i := 108) rfl)) (by decide) (rm13 l Z a0 hw [] p1 p2 p3 fs_ h0 n0 Z0 hc_s hp1 hp2 hp3) (by decide) (W := 0) (by decide) (argsL := [(.int p1), (.int p2), (.int p3), fs_]) (rest := []) (by rw [hml]; rfl) (lenOf pd_1 rfl) rfl (Nat.le_of_eq rfl) (hb hby d48_6) e1 (by decide) (by decide) ?_
  intro T2 L2 v2 X2 hQ2
  obtain ⟨rfl, N2q, e2⟩ := hQ2
  have N2 := Fr.app N0 N2q
  show Own.Fin p e below (T2.setTop (mkF m 9 #[.val (.int p1), .val (.int p2), .val (.int p3)] [(.int p1)])) _
  refine Own.go (fun t k => XS.pop X2.here hx rfl (hb hby d48_9) rfl rfl k) ?_
  show Own.Fin p e below (T2.setTop (mkF m 10 #[.val (.int p1), .val (.int p2), .val (.int p3)] [])) _
  refine Own.retV X2 hx Bd.notSynchronized Bd.returns (hb hby d48_10) (by decide) (by decide) ?_
  exact ⟨rfl, N2, e2⟩
def F_can (x : Int32) : Int32 := if (255 : Int32) < x then 0 else 1
theorem d17_0 : decode jdk_43_method_3_code 0 = .ok (.iload_n 0, 1) := by decide +kernel
theorem d17_1 : decode jdk_43_method_3_code 1 = .ok (.sipush 255, 3) := by decide +kernel
theorem d17_4 : decode jdk_43_method_3_code 4 = .ok (.if_icmp .gt 7, 3) := by decide +kernel
theorem d17_7 : decode jdk_43_method_3_code 7 = .ok (.iconst 1, 1) := by decide +kernel
theorem d17_8 : decode jdk_43_method_3_code 8 = .ok (.goto 4, 3) := by decide +kernel
theorem d17_11 : decode jdk_43_method_3_code 11 = .ok (.iconst 0, 1) := by decide +kernel
theorem d17_12 : decode jdk_43_method_3_code 12 = .ok (.ireturn, 1) := by decide +kernel
theorem pn_17 : plainName "java/lang/StringLatin1" = true := by first | (simp [plainName, overriddenIn]; done) | decide +kernel
theorem ef_17 (m : MethodId) (p1 : Int32)  : entryFrame m #[(.int p1)] 1 = mkF m 0 #[.val (.int p1)] [] := by first | (simp [entryFrame, mkF, argsToLocals, Value.category]; done) | rfl
def Q17 (Z : State) (p1 : Int32)  (h0 : Heap) (n0 : Nat) : Option Value → Heap → List Loc → Prop := fun v h L => v = some (.int (F_can p1)) ∧ Fr n0 L ∧ h = h0
set_option maxRecDepth 65536 in
set_option maxHeartbeats 40000000 in
theorem rm17 (l : Launch) (Z : State) (a0 : Array Value) (hw : ∀ d ∈ tables_1, d.before a0 Z = true) (ws : List Jvm.Cond) (p1 : Int32)  (h0 : Heap) (n0 : Nat) (Z0 : n0 ≤ h0.size)  :
    MetFree l (⟨"java/lang/StringLatin1", "canEncode", "(C)Z"⟩ : MethodName) (head1 (Jvm.Cond.code (⟨"java/lang/StringLatin1", "canEncode", "(C)Z"⟩ : MethodName) jdk_43_method_3_code 1 (some .boolean) :: ws) ({ frames := 0, cells := 0, slots := 0, locals := 0 } : Room)) (fun a U => a = #[(.int p1)] ∧ Z.Warmed39 U.vm ∧ U.heap = h0) (fun _ _ _ _ _ => True) (fun _ U o U' => ∃ v L, o = .returned v ∧ (Q17 Z p1 h0 n0) v U'.heap L ∧ FrameEnd U o U' L ({ frames := 0, cells := 0, slots := 0, locals := 0 } : Room).cells ({ frames := 0, cells := 0, slots := 0, locals := 0 } : Room).slots) := by
  refine MetFree.of_bodySF (plainFor_of_name pn_17) hisR ?_
  intro p e s m args below meth c s₁ Bd hml0 hP hK
  obtain ⟨rfl, hZ, hh⟩ := hP
  have hx := Bd.exec
  have hby := Bd.bytes
  have hml : c.maxLocals = 1 := hml0
  have hown : s.vm.findClass "java/lang/StringLatin1" = some m.cls := findClass_of_methodNamed Bd.named
  have hnm := (name_of_methodNamed Bd.named Bd.method).1
  have X0 : Stand p l e ({ frames := 0, cells := 0, slots := 0, locals := 0 } : Room) s m #[(.int p1)] below meth c s₁ [] 0 0 := Stand.of_body Bd
  have e0 : s₁.heap = h0 := by rw [← hh, Bd.state]; rfl
  have N0 := Fr.nil n0
  show Own.Fin p e below _ (Own.Post s (Q17 Z p1 h0 n0) ({ frames := 0, cells := 0, slots := 0, locals := 0 } : Room).cells ({ frames := 0, cells := 0, slots := 0, locals := 0 } : Room).slots)
  refine Own.start (ef_17 m p1) ?_
  show Own.Fin p e below (s₁.setTop (mkF m 0 #[.val (.int p1)] [])) _
  refine Own.go (fun t k => XS.iloadN X0.here hx rfl (hb hby d17_0) rfl k) ?_
  show Own.Fin p e below (s₁.setTop (mkF m 1 #[.val (.int p1)] [(.int p1)])) _
  refine Own.go (fun t k => XS.sipush X0.here hx rfl (hb hby d17_1) k) ?_
  show Own.Fin p e below (s₁.setTop (mkF m 4 #[.val (.int p1)] [(.int (255 : Int32)), (.int p1)])) _
  by_cases hc4_0 : (255 : Int32) < p1
  · skip
    refine Own.go (fun t k => XS.icmpYes X0.here hx rfl (pc0 := 4) (pc' := 11) rfl (hb hby d17_4) rfl (tlt hc4_0).2.2.1 (by decide) (by decide) k) ?_
    show Own.Fin p e below (s₁.setTop (mkF m 11 #[.val (.int p1)] [])) _
    refine Own.go (fun t k => XS.iconst X0.here hx rfl (hb hby d17_11) k) ?_
    show Own.Fin p e below (s₁.setTop (mkF m 12 #[.val (.int p1)] [(.int (0 : Int32))])) _
    refine Own.retN X0 hx Bd.notSynchronized (t := .boolean) Bd.returns (by simp) (hb hby d17_12) (by decide) (by decide) ?_
    exact ⟨by rw [show nar .boolean (0 : Int32) = F_can p1 by rw [F_can, if_pos hc4_0]; rfl], N0, e0⟩
  · skip
    refine Own.go (fun t k => XS.icmpNo X0.here hx rfl (hb hby d17_4) rfl (flt hc4_0).2.2.1 k) ?_
    show Own.Fin p e below (s₁.setTop (mkF m 7 #[.val (.int p1)] [])) _
    refine Own.go (fun t k => XS.iconst X0.here hx rfl (hb hby d17_7) k) ?_
    show Own.Fin p e below (s₁.setTop (mkF m 8 #[.val (.int p1)] [(.int (1 : Int32))])) _
    refine Own.go (fun t k => XS.goto X0.here hx rfl (pc0 := 8) (pc' := 12) rfl (hb hby d17_8) (by decide) (by decide) k) ?_
    show Own.Fin p e below (s₁.setTop (mkF m 12 #[.val (.int p1)] [(.int (1 : Int32))])) _
    refine Own.retN X0 hx Bd.notSynchronized (t := .boolean) Bd.returns (by simp) (hb hby d17_12) (by decide) (by decide) ?_
    exact ⟨by rw [show nar .boolean (1 : Int32) = F_can p1 by rw [F_can, if_neg hc4_0]; rfl], N0, e0⟩
theorem d28_0 : decode jdk_29_method_69_code 0 = .ok (.iload_n 0, 1) := by decide +kernel
theorem d28_1 : decode jdk_29_method_69_code 1 = .ok (.iload_n 1, 1) := by decide +kernel
theorem d28_2 : decode jdk_29_method_69_code 2 = .ok (.if_icmp .gt 7, 3) := by decide +kernel
theorem d28_9 : decode jdk_29_method_69_code 9 = .ok (.iload_n 1, 1) := by decide +kernel
theorem d28_10 : decode jdk_29_method_69_code 10 = .ok (.ireturn, 1) := by decide +kernel
theorem ef_28 (m : MethodId) (p1 : Int32) (p2 : Int32)  : entryFrame m #[(.int p1), (.int p2)] 2 = mkF m 0 #[.val (.int p1), .val (.int p2)] [] := by first | (simp [entryFrame, mkF, argsToLocals, Value.category]; done) | rfl
def Q28 (Z : State) (p1 : Int32) (p2 : Int32)  (h0 : Heap) (n0 : Nat) : Option Value → Heap → List Loc → Prop := fun v h L => v = some (.int p2) ∧ Fr n0 L ∧ h = h0
set_option maxRecDepth 65536 in
set_option maxHeartbeats 40000000 in
theorem rm28 (l : Launch) (Z : State) (a0 : Array Value) (hw : ∀ d ∈ tables_1, d.before a0 Z = true) (ws : List Jvm.Cond) (p1 : Int32) (p2 : Int32)  (h0 : Heap) (n0 : Nat) (Z0 : n0 ≤ h0.size) (hp : p2 < p1) :
    MetFree l (⟨"java/lang/Math", "min", "(II)I"⟩ : MethodName) (head1 (Jvm.Cond.code (⟨"java/lang/Math", "min", "(II)I"⟩ : MethodName) jdk_29_method_69_code 2 (some .int) :: ws) ({ frames := 0, cells := 0, slots := 0, locals := 0 } : Room)) (fun a U => a = #[(.int p1), (.int p2)] ∧ Z.Warmed39 U.vm ∧ U.heap = h0) (fun _ _ _ _ _ => True) (fun _ U o U' => ∃ v L, o = .returned v ∧ (Q28 Z p1 p2 h0 n0) v U'.heap L ∧ FrameEnd U o U' L ({ frames := 0, cells := 0, slots := 0, locals := 0 } : Room).cells ({ frames := 0, cells := 0, slots := 0, locals := 0 } : Room).slots) := by
  refine MetFree.of_bodySF (Jvm.Free.JP.mathPlain rfl (by decide +kernel)) hisR ?_
  intro p e s m args below meth c s₁ Bd hml0 hP hK
  obtain ⟨rfl, hZ, hh⟩ := hP
  have hx := Bd.exec
  have hby := Bd.bytes
  have hml : c.maxLocals = 2 := hml0
  have hown : s.vm.findClass "java/lang/Math" = some m.cls := findClass_of_methodNamed Bd.named
  have hnm := (name_of_methodNamed Bd.named Bd.method).1
  have X0 : Stand p l e ({ frames := 0, cells := 0, slots := 0, locals := 0 } : Room) s m #[(.int p1), (.int p2)] below meth c s₁ [] 0 0 := Stand.of_body Bd
  have e0 : s₁.heap = h0 := by rw [← hh, Bd.state]; rfl
  have N0 := Fr.nil n0
  show Own.Fin p e below _ (Own.Post s (Q28 Z p1 p2 h0 n0) ({ frames := 0, cells := 0, slots := 0, locals := 0 } : Room).cells ({ frames := 0, cells := 0, slots := 0, locals := 0 } : Room).slots)
  refine Own.start (ef_28 m p1 p2) ?_
  show Own.Fin p e below (s₁.setTop (mkF m 0 #[.val (.int p1), .val (.int p2)] [])) _
  refine Own.go (fun t k => XS.iloadN X0.here hx rfl (hb hby d28_0) rfl k) ?_
  show Own.Fin p e below (s₁.setTop (mkF m 1 #[.val (.int p1), .val (.int p2)] [(.int p1)])) _
  refine Own.go (fun t k => XS.iloadN X0.here hx rfl (hb hby d28_1) rfl k) ?_
  show Own.Fin p e below (s₁.setTop (mkF m 2 #[.val (.int p1), .val (.int p2)] [(.int p2), (.int p1)])) _
  have hc2_0 : p2 < p1 := hp
  refine Own.go (fun t k => XS.icmpYes X0.here hx rfl (pc0 := 2) (pc' := 9) rfl (hb hby d28_2) rfl (tlt hc2_0).2.2.1 (by decide) (by decide) k) ?_
  show Own.Fin p e below (s₁.setTop (mkF m 9 #[.val (.int p1), .val (.int p2)] [])) _
  refine Own.go (fun t k => XS.iloadN X0.here hx rfl (hb hby d28_9) rfl k) ?_
  show Own.Fin p e below (s₁.setTop (mkF m 10 #[.val (.int p1), .val (.int p2)] [(.int p2)])) _
  refine Own.retI X0 hx Bd.notSynchronized Bd.returns (hb hby d28_10) (by decide) (by decide) ?_
  exact ⟨rfl, N0, e0⟩
theorem d27_0 : decode jdk_65_method_131_code 0 = .ok (.iload_n 1, 1) := by decide +kernel
theorem d27_1 : decode jdk_65_method_131_code 1 = .ok (.iload_n 0, 1) := by decide +kernel
theorem d27_2 : decode jdk_65_method_131_code 2 = .ok (.if_icmp .ge 35, 3) := by decide +kernel
theorem d27_37 : decode jdk_65_method_131_code 37 = .ok (.return_, 1) := by decide +kernel
theorem pn_27 : plainName "java/util/Arrays" = true := by first | (simp [plainName, overriddenIn]; done) | decide +kernel
theorem ef_27 (m : MethodId) (p1 : Int32) (p2 : Int32)  : entryFrame m #[(.int p1), (.int p2)] 2 = mkF m 0 #[.val (.int p1), .val (.int p2)] [] := by first | (simp [entryFrame, mkF, argsToLocals, Value.category]; done) | rfl
def Q27 (Z : State) (p1 : Int32) (p2 : Int32)  (h0 : Heap) (n0 : Nat) : Option Value → Heap → List Loc → Prop := fun v h L => v = none ∧ Fr n0 L ∧ h = h0
set_option maxRecDepth 65536 in
set_option maxHeartbeats 40000000 in
theorem rm27 (l : Launch) (Z : State) (a0 : Array Value) (hw : ∀ d ∈ tables_1, d.before a0 Z = true) (ws : List Jvm.Cond) (p1 : Int32) (p2 : Int32)  (h0 : Heap) (n0 : Nat) (Z0 : n0 ≤ h0.size) (hp : ¬ p2 < p1) :
    MetFree l (⟨"java/util/Arrays", "checkLength", "(II)V"⟩ : MethodName) (head1 (Jvm.Cond.code (⟨"java/util/Arrays", "checkLength", "(II)V"⟩ : MethodName) jdk_65_method_131_code 2 none :: ws) ({ frames := 0, cells := 0, slots := 0, locals := 0 } : Room)) (fun a U => a = #[(.int p1), (.int p2)] ∧ Z.Warmed39 U.vm ∧ U.heap = h0) (fun _ _ _ _ _ => True) (fun _ U o U' => ∃ v L, o = .returned v ∧ (Q27 Z p1 p2 h0 n0) v U'.heap L ∧ FrameEnd U o U' L ({ frames := 0, cells := 0, slots := 0, locals := 0 } : Room).cells ({ frames := 0, cells := 0, slots := 0, locals := 0 } : Room).slots) := by
  refine MetFree.of_bodySF (plainFor_of_name pn_27) hisR ?_
  intro p e s m args below meth c s₁ Bd hml0 hP hK
  obtain ⟨rfl, hZ, hh⟩ := hP
  have hx := Bd.exec
  have hby := Bd.bytes
  have hml : c.maxLocals = 2 := hml0
  have hown : s.vm.findClass "java/util/Arrays" = some m.cls := findClass_of_methodNamed Bd.named
  have hnm := (name_of_methodNamed Bd.named Bd.method).1
  have X0 : Stand p l e ({ frames := 0, cells := 0, slots := 0, locals := 0 } : Room) s m #[(.int p1), (.int p2)] below meth c s₁ [] 0 0 := Stand.of_body Bd
  have e0 : s₁.heap = h0 := by rw [← hh, Bd.state]; rfl
  have N0 := Fr.nil n0
  show Own.Fin p e below _ (Own.Post s (Q27 Z p1 p2 h0 n0) ({ frames := 0, cells := 0, slots := 0, locals := 0 } : Room).cells ({ frames := 0, cells := 0, slots := 0, locals := 0 } : Room).slots)
  refine Own.start (ef_27 m p1 p2) ?_
  show Own.Fin p e below (s₁.setTop (mkF m 0 #[.val (.int p1), .val (.int p2)] [])) _
  refine Own.go (fun t k => XS.iloadN X0.here hx rfl (hb hby d27_0) rfl k) ?_
  show Own.Fin p e below (s₁.setTop (mkF m 1 #[.val (.int p1), .val (.int p2)] [(.int p2)])) _
  refine Own.go (fun t k => XS.iloadN X0.here hx rfl (hb hby d27_1) rfl k) ?_
  show Own.Fin p e below (s₁.setTop (mkF m 2 #[.val (.int p1), .val (.int p2)] [(.int p1), (.int p2)])) _
  have hc2_0 : ¬ (p2 < p1) := hp
  refine Own.go (fun t k => XS.icmpYes X0.here hx rfl (pc0 := 2) (pc' := 37) rfl (hb hby d27_2) rfl (flt hc2_0).2.1 (by decide) (by decide) k) ?_
  show Own.Fin p e below (s₁.setTop (mkF m 37 #[.val (.int p1), .val (.int p2)] [])) _
  refine Own.retV X0 hx Bd.notSynchronized Bd.returns (hb hby d27_37) (by decide) (by decide) ?_
  exact ⟨rfl, N0, e0⟩
theorem d39_0 : decode jdk_52_method_3_code 0 = .ok (.iload_n 0, 1) := by decide +kernel
theorem d39_1 : decode jdk_52_method_3_code 1 = .ok (.ifCond .ge 11, 3) := by decide +kernel
theorem d39_12 : decode jdk_52_method_3_code 12 = .ok (.iload_n 0, 1) := by decide +kernel
theorem d39_13 : decode jdk_52_method_3_code 13 = .ok (.ldc 20, 2) := by decide +kernel
theorem d39_15 : decode jdk_52_method_3_code 15 = .ok (.if_icmp .lt 40, 3) := by decide +kernel
theorem d39_55 : decode jdk_52_method_3_code 55 = .ok (.iload_n 0, 1) := by decide +kernel
theorem d39_56 : decode jdk_52_method_3_code 56 = .ok (.iconst 1, 1) := by decide +kernel
theorem d39_57 : decode jdk_52_method_3_code 57 = .ok (.ishl, 1) := by decide +kernel
theorem d39_58 : decode jdk_52_method_3_code 58 = .ok (.ireturn, 1) := by decide +kernel
theorem pn_39 : plainName "java/lang/StringUTF16" = true := by first | (simp [plainName, overriddenIn]; done) | decide +kernel
theorem ef_39 (m : MethodId) (p1 : Int32)  : entryFrame m #[(.int p1)] 1 = mkF m 0 #[.val (.int p1)] [] := by first | (simp [entryFrame, mkF, argsToLocals, Value.category]; done) | rfl
def Q39 (Z : State) (p1 : Int32)  (h0 : Heap) (n0 : Nat) : Option Value → Heap → List Loc → Prop := fun v h L => v = some (.int (32 : Int32)) ∧ Fr n0 L ∧ h = h0
set_option maxRecDepth 65536 in
set_option maxHeartbeats 40000000 in
theorem rm39 (l : Launch) (Z : State) (a0 : Array Value) (hw : ∀ d ∈ tables_1, d.before a0 Z = true) (ws : List Jvm.Cond) (p1 : Int32)  (h0 : Heap) (n0 : Nat) (Z0 : n0 ≤ h0.size) (hp : p1 = (16 : Int32)) :
    MetFree l (⟨"java/lang/StringUTF16", "newBytesLength", "(I)I"⟩ : MethodName) (head1 (Jvm.Cond.code (⟨"java/lang/StringUTF16", "newBytesLength", "(I)I"⟩ : MethodName) jdk_52_method_3_code 1 (some .int) :: ws) ({ frames := 0, cells := 0, slots := 0, locals := 0 } : Room)) (fun a U => a = #[(.int p1)] ∧ Z.Warmed39 U.vm ∧ U.heap = h0) (fun _ _ _ _ _ => True) (fun _ U o U' => ∃ v L, o = .returned v ∧ (Q39 Z p1 h0 n0) v U'.heap L ∧ FrameEnd U o U' L ({ frames := 0, cells := 0, slots := 0, locals := 0 } : Room).cells ({ frames := 0, cells := 0, slots := 0, locals := 0 } : Room).slots) := by
  refine MetFree.of_bodySF (plainFor_of_name pn_39) hisR ?_
  intro p e s m args below meth c s₁ Bd hml0 hP hK
  obtain ⟨rfl, hZ, hh⟩ := hP
  have hx := Bd.exec
  have hby := Bd.bytes
  have hml : c.maxLocals = 1 := hml0
  have hown : s.vm.findClass "java/lang/StringUTF16" = some m.cls := findClass_of_methodNamed Bd.named
  have hnm := (name_of_methodNamed Bd.named Bd.method).1
  have X0 : Stand p l e ({ frames := 0, cells := 0, slots := 0, locals := 0 } : Room) s m #[(.int p1)] below meth c s₁ [] 0 0 := Stand.of_body Bd
  have e0 : s₁.heap = h0 := by rw [← hh, Bd.state]; rfl
  have N0 := Fr.nil n0
  show Own.Fin p e below _ (Own.Post s (Q39 Z p1 h0 n0) ({ frames := 0, cells := 0, slots := 0, locals := 0 } : Room).cells ({ frames := 0, cells := 0, slots := 0, locals := 0 } : Room).slots)
  refine Own.start (ef_39 m p1) ?_
  show Own.Fin p e below (s₁.setTop (mkF m 0 #[.val (.int p1)] [])) _
  refine Own.go (fun t k => XS.iloadN X0.here hx rfl (hb hby d39_0) rfl k) ?_
  show Own.Fin p e below (s₁.setTop (mkF m 1 #[.val (.int p1)] [(.int p1)])) _
  have hc1_0 : ¬ (p1 < (0 : Int32)) := (by rw [hp]; decide)
  refine Own.go (fun t k => XS.ifYes X0.here hx rfl (pc0 := 1) (pc' := 12) rfl (hb hby d39_1) rfl ((if0 _ _).trans (flt hc1_0).2.1) (by decide) (by decide) k) ?_
  show Own.Fin p e below (s₁.setTop (mkF m 12 #[.val (.int p1)] [])) _
  refine Own.go (fun t k => XS.iloadN X0.here hx rfl (hb hby d39_12) rfl k) ?_
  show Own.Fin p e below (s₁.setTop (mkF m 13 #[.val (.int p1)] [(.int p1)])) _
  refine Own.go (fun t k => X0.ldcInt hx hown (mvT hZ (hw _ (List.mem_of_getElem? (i := 230) rfl))) (g := (mkF m 13 #[.val (.int p1)] [(.int p1)])) rfl (hb hby d39_13) _ k) ?_
  show Own.Fin p e below (s₁.setTop (mkF m 15 #[.val (.int p1)] [(.int (1073741823 : Int32)), (.int p1)])) _
  have hc15_1 : p1 < (1073741823 : Int32) := (by rw [hp]; decide)
  refine Own.go (fun t k => XS.icmpYes X0.here hx rfl (pc0 := 15) (pc' := 55) rfl (hb hby d39_15) rfl (tlt hc15_1).1 (by decide) (by decide) k) ?_
  show Own.Fin p e below (s₁.setTop (mkF m 55 #[.val (.int p1)] [])) _
  refine Own.go (fun t k => XS.iloadN X0.here hx rfl (hb hby d39_55) rfl k) ?_
  show Own.Fin p e below (s₁.setTop (mkF m 56 #[.val (.int p1)] [(.int p1)])) _
  refine Own.go (fun t k => XS.iconst X0.here hx rfl (hb hby d39_56) k) ?_
  show Own.Fin p e below (s₁.setTop (mkF m 57 #[.val (.int p1)] [(.int (1 : Int32)), (.int p1)])) _
  refine Own.go (fun t k => XS.ishl X0.here hx rfl (hb hby d39_57) rfl k) ?_
  show Own.Fin p e below (s₁.setTop (mkF m 58 #[.val (.int p1)] [(.int ((p1 <<< ((1 : Int32) &&& 31))))])) _
  refine Own.retI X0 hx Bd.notSynchronized Bd.returns (hb hby d39_58) (by decide) (by decide) ?_
  exact ⟨by rw [hp]; rfl, N0, e0⟩
theorem d38_0 : decode jdk_52_method_2_code 0 = .ok (.iload_n 0, 1) := by decide +kernel
theorem d38_1 : decode jdk_52_method_2_code 1 = .ok (.invokestatic 11, 3) := by decide +kernel
theorem d38_4 : decode jdk_52_method_2_code 4 = .ok (.newarray .byte, 2) := by decide +kernel
theorem d38_6 : decode jdk_52_method_2_code 6 = .ok (.areturn, 1) := by decide +kernel
theorem pd_2 : parseMethodDescriptor "(I)I" = some ⟨[.int], some .int⟩ := by decide +kernel
theorem pn_38 : plainName "java/lang/StringUTF16" = true := by first | (simp [plainName, overriddenIn]; done) | decide +kernel
theorem ef_38 (m : MethodId) (p1 : Int32)  : entryFrame m #[(.int p1)] 1 = mkF m 0 #[.val (.int p1)] [] := by first | (simp [entryFrame, mkF, argsToLocals, Value.category]; done) | rfl
def Q38 (Z : State) (p1 : Int32)  (h0 : Heap) (n0 : Nat) : Option Value → Heap → List Loc → Prop := fun v h L => ∃ (b : Addr) (k : ClassId), v = some (.ref b) ∧ Fr n0 L ∧ b = h0.size ∧ Ext h0 h ∧ Arv Z h b k .byte (32 : Int32) (tab 32 (fun _ => .int (0 : Int32))) (.int (0 : Int32))
set_option maxRecDepth 65536 in
set_option maxHeartbeats 40000000 in
theorem rm38 (l : Launch) (Z : State) (a0 : Array Value) (hw : ∀ d ∈ tables_1, d.before a0 Z = true) (ws : List Jvm.Cond) (p1 : Int32)  (h0 : Heap) (n0 : Nat) (Z0 : n0 ≤ h0.size) (hp : p1 = (16 : Int32)) :
    MetFree l (⟨"java/lang/StringUTF16", "newBytesFor", "(I)[B"⟩ : MethodName) (head1 (Jvm.Cond.code (⟨"java/lang/StringUTF16", "newBytesFor", "(I)[B"⟩ : MethodName) jdk_52_method_2_code 1 (some (.array .byte)) :: ws) ({ frames := 1, cells := 1, slots := 32, locals := 20 } : Room)) (fun a U => a = #[(.int p1)] ∧ Z.Warmed39 U.vm ∧ U.heap = h0) (fun _ _ _ _ _ => True) (fun _ U o U' => ∃ v L, o = .returned v ∧ (Q38 Z p1 h0 n0) v U'.heap L ∧ FrameEnd U o U' L ({ frames := 1, cells := 1, slots := 32, locals := 20 } : Room).cells ({ frames := 1, cells := 1, slots := 32, locals := 20 } : Room).slots) := by
  refine MetFree.of_bodySF (plainFor_of_name pn_38) hisR ?_
  intro p e s m args below meth c s₁ Bd hml0 hP hK
  obtain ⟨rfl, hZ, hh⟩ := hP
  have hx := Bd.exec
  have hby := Bd.bytes
  have hml : c.maxLocals = 1 := hml0
  have hown : s.vm.findClass "java/lang/StringUTF16" = some m.cls := findClass_of_methodNamed Bd.named
  have hnm := (name_of_methodNamed Bd.named Bd.method).1
  have X0 : Stand p l e ({ frames := 1, cells := 1, slots := 32, locals := 20 } : Room) s m #[(.int p1)] below meth c s₁ [] 0 0 := Stand.of_body Bd
  have e0 : s₁.heap = h0 := by rw [← hh, Bd.state]; rfl
  have N0 := Fr.nil n0
  show Own.Fin p e below _ (Own.Post s (Q38 Z p1 h0 n0) ({ frames := 1, cells := 1, slots := 32, locals := 20 } : Room).cells ({ frames := 1, cells := 1, slots := 32, locals := 20 } : Room).slots)
  refine Own.start (ef_38 m p1) ?_
  show Own.Fin p e below (s₁.setTop (mkF m 0 #[.val (.int p1)] [])) _
  refine Own.go (fun t k => XS.iloadN X0.here hx rfl (hb hby d38_0) rfl k) ?_
  show Own.Fin p e below (s₁.setTop (mkF m 1 #[.val (.int p1)] [(.int p1)])) _
  refine Own.cS X0 hx hZ hown (hw _ (List.mem_of_getElem? (i := 227) rfl)) (hw _ (List.mem_of_getElem? (i := 228) rfl)) (hw _ (List.mem_of_getElem? (i := 225) rfl)) (hw _ (List.mem_of_getElem? (i := 229) rfl)) (by decide) (rm39 l Z a0 hw [] p1 h0 n0 Z0 hp) (by decide) (W := 0) (by decide) (argsL := [(.int p1)]) (rest := []) (by rw [hml]; rfl) (lenOf pd_2 rfl) rfl (Nat.le_of_eq rfl) (hb hby d38_1) e0 (by decide) (by decide) ?_
  intro T1 L1 v1 X1 hQ1
  obtain ⟨rfl, N1q, e1⟩ := hQ1
  have N1 := Fr.app N0 N1q
  show Own.Fin p e below (T1.setTop (mkF m 4 #[.val (.int p1)] [(.int (32 : Int32))])) _
  refine Own.newA X1 hx hZ (hw _ (List.mem_of_getElem? (i := 11) rfl)) e1 (hb hby d38_4) (by decide) 32 (by decide) (by decide) (by decide) (by decide) ?_
  intro T2 h2 b2 k2 X2 e2 E2 gb2 V2
  have ge2 : n0 ≤ b2 := by rw [gb2]; exact Z0
  have sz_b2 : h0.size ≤ b2 := Nat.le_trans (Keep.refl h0 []).1 (Nat.le_of_eq gb2.symm)
  have Z2 : n0 ≤ h2.size := Nat.le_trans Z0 E2.1
  have K2 := (Keep.refl h0 []).ext E2
  have Vp2 : Arv Z h2 b2 k2 .byte (32 : Int32) [(.int (0 : Int32)), (.int (0 : Int32)), (.int (0 : Int32)), (.int (0 : Int32)), (.int (0 : Int32)), (.int (0 : Int32)), (.int (0 : Int32)), (.int (0 : Int32)), (.int (0 : Int32)), (.int (0 : Int32)), (.int (0 : Int32)), (.int (0 : Int32)), (.int (0 : Int32)), (.int (0 : Int32)), (.int (0 : Int32)), (.int (0 : Int32)), (.int (0 : Int32)), (.int (0 : Int32)), (.int (0 : Int32)), (.int (0 : Int32)), (.int (0 : Int32)), (.int (0 : Int32)), (.int (0 : Int32)), (.int (0 : Int32)), (.int (0 : Int32)), (.int (0 : Int32)), (.int (0 : Int32)), (.int (0 : Int32)), (.int (0 : Int32)), (.int (0 : Int32)), (.int (0 : Int32)), (.int (0 : Int32))] (.int (0 : Int32)) := Arv.pad V2 (pad_rep [] (.int (0 : Int32)) 32)
  show Own.Fin p e below (T2.setTop (mkF m 6 #[.val (.int p1)] [(.ref b2)])) _
  have Vt : Arv Z h2 b2 k2 .byte (32 : Int32) (tab 32 (fun _ => .int (0 : Int32))) (.int (0 : Int32)) := Arv.pad V2 (tab_nil 32 _)
  refine Own.retR X2 hx Bd.notSynchronized Bd.returns rfl rfl (hb hby d38_6) (by decide) (by decide) ?_
  exact ⟨b2, k2, rfl, N1, gb2, by rw [e2]; exact E2, by rw [e2]; exact Vt⟩
theorem d43_0 : decode jdk_52_method_6_code 0 = .ok (.aload_n 0, 1) := by decide +kernel
theorem d43_1 : decode jdk_52_method_6_code 1 = .ok (.arraylength, 1) := by decide +kernel
theorem d43_2 : decode jdk_52_method_6_code 2 = .ok (.iconst 1, 1) := by decide +kernel
theorem d43_3 : decode jdk_52_method_6_code 3 = .ok (.ishr, 1) := by decide +kernel
theorem d43_4 : decode jdk_52_method_6_code 4 = .ok (.ireturn, 1) := by decide +kernel
theorem pn_43 : plainName "java/lang/StringUTF16" = true := by first | (simp [plainName, overriddenIn]; done) | decide +kernel
theorem ef_43 (m : MethodId) (da : Addr)  : entryFrame m #[(.ref da)] 1 = mkF m 0 #[.val (.ref da)] [] := by first | (simp [entryFrame, mkF, argsToLocals, Value.category]; done) | rfl
def Q43 (Z : State) (da : Addr) (kD : ClassId) (zv : Int32) (N : Nat) (g : Nat → Value) (h0 : Heap) (n0 : Nat) : Option Value → Heap → List Loc → Prop := fun v h L => v = some (.int (zv >>> ((1 : Int32) &&& 31))) ∧ Fr n0 L ∧ h = h0
set_option maxRecDepth 65536 in
set_option maxHeartbeats 40000000 in
theorem rm43 (l : Launch) (Z : State) (a0 : Array Value) (hw : ∀ d ∈ tables_1, d.before a0 Z = true) (ws : List Jvm.Cond) (da : Addr) (kD : ClassId) (zv : Int32) (N : Nat) (g : Nat → Value) (h0 : Heap) (n0 : Nat) (Z0 : n0 ≤ h0.size) (V0 : Arv Z h0 da kD .byte zv (tab N g) (.int (0 : Int32))) :
    MetFree l (⟨"java/lang/StringUTF16", "length", "([B)I"⟩ : MethodName) (head1 (Jvm.Cond.code (⟨"java/lang/StringUTF16", "length", "([B)I"⟩ : MethodName) jdk_52_method_6_code 1 (some .int) :: ws) ({ frames := 0, cells := 0, slots := 0, locals := 0 } : Room)) (fun a U => a = #[(.ref da)] ∧ Z.Warmed39 U.vm ∧ U.heap = h0) (fun _ _ _ _ _ => True) (fun _ U o U' => ∃ v L, o = .returned v ∧ (Q43 Z da kD zv N g h0 n0) v U'.heap L ∧ FrameEnd U o U' L ({ frames := 0, cells := 0, slots := 0, locals := 0 } : Room).cells ({ frames := 0, cells := 0, slots := 0, locals := 0 } : Room).slots) := by
  refine MetFree.of_bodySF (plainFor_of_name pn_43) hisR ?_
  intro p e s m args below meth c s₁ Bd hml0 hP hK
  obtain ⟨rfl, hZ, hh⟩ := hP
  have hx := Bd.exec
  have hby := Bd.bytes
  have hml : c.maxLocals = 1 := hml0
  have hown : s.vm.findClass "java/lang/StringUTF16" = some m.cls := findClass_of_methodNamed Bd.named
  have hnm := (name_of_methodNamed Bd.named Bd.method).1
  have X0 : Stand p l e ({ frames := 0, cells := 0, slots := 0, locals := 0 } : Room) s m #[(.ref da)] below meth c s₁ [] 0 0 := Stand.of_body Bd
  have e0 : s₁.heap = h0 := by rw [← hh, Bd.state]; rfl
  have N0 := Fr.nil n0
  show Own.Fin p e below _ (Own.Post s (Q43 Z da kD zv N g h0 n0) ({ frames := 0, cells := 0, slots := 0, locals := 0 } : Room).cells ({ frames := 0, cells := 0, slots := 0, locals := 0 } : Room).slots)
  refine Own.start (ef_43 m da) ?_
  show Own.Fin p e below (s₁.setTop (mkF m 0 #[.val (.ref da)] [])) _
  refine Own.go (fun t k => XS.aloadN X0.here hx rfl (hb hby d43_0) rfl rfl k) ?_
  show Own.Fin p e below (s₁.setTop (mkF m 1 #[.val (.ref da)] [(.ref da)])) _
  refine Own.alen X0 hx hZ e0 V0 (hb hby d43_1) ?_
  show Own.Fin p e below (s₁.setTop (mkF m 2 #[.val (.ref da)] [(.int zv)])) _
  refine Own.go (fun t k => XS.iconst X0.here hx rfl (hb hby d43_2) k) ?_
  show Own.Fin p e below (s₁.setTop (mkF m 3 #[.val (.ref da)] [(.int (1 : Int32)), (.int zv)])) _
  refine Own.go (fun t k => XS.ishr X0.here hx rfl (hb hby d43_3) rfl k) ?_
  show Own.Fin p e below (s₁.setTop (mkF m 4 #[.val (.ref da)] [(.int ((zv >>> ((1 : Int32) &&& 31))))])) _
  refine Own.retI X0 hx Bd.notSynchronized Bd.returns (hb hby d43_4) (by decide) (by decide) ?_
  exact ⟨rfl, N0, e0⟩
theorem d42_0 : decode jdk_52_method_94_code 0 = .ok (.iload_n 0, 1) := by decide +kernel
theorem d42_1 : decode jdk_52_method_94_code 1 = .ok (.iload_n 1, 1) := by decide +kernel
theorem d42_2 : decode jdk_52_method_94_code 2 = .ok (.aload_n 2, 1) := by decide +kernel
theorem d42_3 : decode jdk_52_method_94_code 3 = .ok (.invokestatic 48, 3) := by decide +kernel
theorem d42_6 : decode jdk_52_method_94_code 6 = .ok (.invokestatic 419, 3) := by decide +kernel
theorem d42_9 : decode jdk_52_method_94_code 9 = .ok (.pop, 1) := by decide +kernel
theorem d42_10 : decode jdk_52_method_94_code 10 = .ok (.return_, 1) := by decide +kernel
theorem pd_4 : parseMethodDescriptor "(III)I" = some ⟨[.int, .int, .int], some .int⟩ := by decide +kernel
theorem pd_3 : parseMethodDescriptor "([B)I" = some ⟨[(.array .byte)], some .int⟩ := by decide +kernel
theorem pn_42 : plainName "java/lang/StringUTF16" = true := by first | (simp [plainName, overriddenIn]; done) | decide +kernel
theorem ef_42 (m : MethodId) (p1 : Int32) (p2 : Int32) (da : Addr)  : entryFrame m #[(.int p1), (.int p2), (.ref da)] 3 = mkF m 0 #[.val (.int p1), .val (.int p2), .val (.ref da)] [] := by first | (simp [entryFrame, mkF, argsToLocals, Value.category]; done) | rfl
def Q42 (Z : State) (p1 : Int32) (p2 : Int32) (da : Addr) (fs_ : Value) (kD : ClassId) (zv : Int32) (N : Nat) (g : Nat → Value) (h0 : Heap) (n0 : Nat) : Option Value → Heap → List Loc → Prop := fun v h L => v = none ∧ Fr n0 L ∧ h = h0
set_option maxRecDepth 65536 in
set_option maxHeartbeats 40000000 in
theorem rm42 (l : Launch) (Z : State) (a0 : Array Value) (hw : ∀ d ∈ tables_1, d.before a0 Z = true) (ws : List Jvm.Cond) (p1 : Int32) (p2 : Int32) (da : Addr) (fs_ : Value) (kD : ClassId) (zv : Int32) (N : Nat) (g : Nat → Value) (h0 : Heap) (n0 : Nat) (Z0 : n0 ≤ h0.size) (O0 : Old Z n0 h0) (SF : Sta Z Z.heap "jdk/internal/util/Preconditions" "SIOOBE_FORMATTER" "Ljava/util/function/BiFunction;" fs_) (hc_s : fs_.category = 1) (V0 : Arv Z h0 da kD .byte zv (tab N g) (.int (0 : Int32))) (hp1 : ¬ (((zv >>> ((1 : Int32) &&& 31)) ||| p1) ||| p2) < (0 : Int32)) (hp2 : ¬ ((zv >>> ((1 : Int32) &&& 31)) - p1) < p2) :
    MetFree l (⟨"java/lang/StringUTF16", "checkBoundsOffCount", "(II[B)V"⟩ : MethodName) (head1 (Jvm.Cond.code (⟨"java/lang/StringUTF16", "checkBoundsOffCount", "(II[B)V"⟩ : MethodName) jdk_52_method_94_code 3 none :: ws) ({ frames := 2, cells := 0, slots := 0, locals := 60 } : Room)) (fun a U => a = #[(.int p1), (.int p2), (.ref da)] ∧ Z.Warmed39 U.vm ∧ U.heap = h0) (fun _ _ _ _ _ => True) (fun _ U o U' => ∃ v L, o = .returned v ∧ (Q42 Z p1 p2 da fs_ kD zv N g h0 n0) v U'.heap L ∧ FrameEnd U o U' L ({ frames := 2, cells := 0, slots := 0, locals := 60 } : Room).cells ({ frames := 2, cells := 0, slots := 0, locals := 60 } : Room).slots) := by
  refine MetFree.of_bodySF (plainFor_of_name pn_42) hisR ?_
  intro p e s m args below meth c s₁ Bd hml0 hP hK
  obtain ⟨rfl, hZ, hh⟩ := hP
  have hx := Bd.exec
  have hby := Bd.bytes
  have hml : c.maxLocals = 3 := hml0
  have hown : s.vm.findClass "java/lang/StringUTF16" = some m.cls := findClass_of_methodNamed Bd.named
  have hnm := (name_of_methodNamed Bd.named Bd.method).1
  have X0 : Stand p l e ({ frames := 2, cells := 0, slots := 0, locals := 60 } : Room) s m #[(.int p1), (.int p2), (.ref da)] below meth c s₁ [] 0 0 := Stand.of_body Bd
  have e0 : s₁.heap = h0 := by rw [← hh, Bd.state]; rfl
  have N0 := Fr.nil n0
  show Own.Fin p e below _ (Own.Post s (Q42 Z p1 p2 da fs_ kD zv N g h0 n0) ({ frames := 2, cells := 0, slots := 0, locals := 60 } : Room).cells ({ frames := 2, cells := 0, slots := 0, locals := 60 } : Room).slots)
  refine Own.start (ef_42 m p1 p2 da) ?_
  show Own.Fin p e below (s₁.setTop (mkF m 0 #[.val (.int p1), .val (.int p2), .val (.ref da)] [])) _
  refine Own.go (fun t k => XS.iloadN X0.here hx rfl (hb hby d42_0) rfl k) ?_
  show Own.Fin p e below (s₁.setTop (mkF m 1 #[.val (.int p1), .val (.int p2), .val (.ref da)] [(.int p1)])) _
  refine Own.go (fun t k => XS.iloadN X0.here hx rfl (hb hby d42_1) rfl k) ?_
  show Own.Fin p e below (s₁.setTop (mkF m 2 #[.val (.int p1), .val (.int p2), .val (.ref da)] [(.int p2), (.int p1)])) _
  refine Own.go (fun t k => XS.aloadN X0.here hx rfl (hb hby d42_2) rfl rfl k) ?_
  show Own.Fin p e below (s₁.setTop (mkF m 3 #[.val (.int p1), .val (.int p2), .val (.ref da)] [(.ref da), (.int p2), (.int p1)])) _
  refine Own.cS X0 hx hZ hown (hw _ (List.mem_of_getElem? (i := 240) rfl)) (hw _ (List.mem_of_getElem? (i := 241) rfl)) (hw _ (List.mem_of_getElem? (i := 225) rfl)) (hw _ (List.mem_of_getElem? (i := 242) rfl)) (by decide) (rm43 l Z a0 hw [] da kD zv N g h0 n0 Z0 V0) (by decide) (W := 2) (by decide) (argsL := [(.ref da)]) (rest := [(.int p2), (.int p1)]) (by rw [hml]; rfl) (lenOf pd_3 rfl) rfl (Nat.le_of_eq rfl) (hb hby d42_3) e0 (by decide) (by decide) ?_
  intro T1 L1 v1 X1 hQ1
  obtain ⟨rfl, N1q, e1⟩ := hQ1
  have N1 := Fr.app N0 N1q
  show Own.Fin p e below (T1.setTop (mkF m 6 #[.val (.int p1), .val (.int p2), .val (.ref da)] [(.int (zv >>> ((1 : Int32) &&& 31))), (.int p2), (.int p1)])) _
  refine Own.cS X1 hx hZ hown (hw _ (List.mem_of_getElem? (i := 243) rfl)) (hw _ (List.mem_of_getElem? (i := 244) rfl)) (hw _ (List.mem_of_getElem? (i := 9) rfl)) (hw _ (List.mem_of_getElem? (i := 245) rfl)) (by decide) (rm44 l Z a0 hw [] p1 p2 (zv >>> ((1 : Int32) &&& 31)) fs_ h0 n0 Z0 O0 SF hc_s hp1 hp2) (by decide) (W := 0) (by decide) (argsL := [(.int p1), (.int p2), (.int (zv >>> ((1 : Int32) &&& 31)))]) (rest := []) (by rw [hml]; rfl) (lenOf pd_4 rfl) rfl (Nat.le_of_eq rfl) (hb hby d42_6) e1 (by decide) (by decide) ?_
  intro T2 L2 v2 X2 hQ2
  obtain ⟨rfl, N2q, e2⟩ := hQ2
  have N2 := Fr.app N1 N2q
  show Own.Fin p e below (T2.setTop (mkF m 9 #[.val (.int p1), .val (.int p2), .val (.ref da)] [(.int p1)])) _
  refine Own.go (fun t k => XS.pop X2.here hx rfl (hb hby d42_9) rfl rfl k) ?_
  show Own.Fin p e below (T2.setTop (mkF m 10 #[.val (.int p1), .val (.int p2), .val (.ref da)] [])) _
  refine Own.retV X2 hx Bd.notSynchronized Bd.returns (hb hby d42_10) (by decide) (by decide) ?_
  exact ⟨rfl, N2, e2⟩
theorem d47_0 : decode jdk_52_method_93_code 0 = .ok (.iload_n 0, 1) := by decide +kernel
theorem d47_1 : decode jdk_52_method_93_code 1 = .ok (.iload_n 1, 1) := by decide +kernel
theorem d47_2 : decode jdk_52_method_93_code 2 = .ok (.aload_n 2, 1) := by decide +kernel
theorem d47_3 : decode jdk_52_method_93_code 3 = .ok (.invokestatic 48, 3) := by decide +kernel
theorem d47_6 : decode jdk_52_method_93_code 6 = .ok (.invokestatic 241, 3) := by decide +kernel
theorem d47_9 : decode jdk_52_method_93_code 9 = .ok (.return_, 1) := by decide +kernel
theorem pd_5 : parseMethodDescriptor "(III)V" = some ⟨[.int, .int, .int], none⟩ := by decide +kernel
theorem pn_47 : plainName "java/lang/StringUTF16" = true := by first | (simp [plainName, overriddenIn]; done) | decide +kernel
theorem ef_47 (m : MethodId) (p1 : Int32) (p2 : Int32) (da : Addr)  : entryFrame m #[(.int p1), (.int p2), (.ref da)] 3 = mkF m 0 #[.val (.int p1), .val (.int p2), .val (.ref da)] [] := by first | (simp [entryFrame, mkF, argsToLocals, Value.category]; done) | rfl
def Q47 (Z : State) (p1 : Int32) (p2 : Int32) (da : Addr) (fs_ : Value) (kD : ClassId) (zv : Int32) (N : Nat) (g : Nat → Value) (h0 : Heap) (n0 : Nat) : Option Value → Heap → List Loc → Prop := fun v h L => v = none ∧ Fr n0 L ∧ h = h0
set_option maxRecDepth 65536 in
set_option maxHeartbeats 40000000 in
theorem rm47 (l : Launch) (Z : State) (a0 : Array Value) (hw : ∀ d ∈ tables_1, d.before a0 Z = true) (ws : List Jvm.Cond) (p1 : Int32) (p2 : Int32) (da : Addr) (fs_ : Value) (kD : ClassId) (zv : Int32) (N : Nat) (g : Nat → Value) (h0 : Heap) (n0 : Nat) (Z0 : n0 ≤ h0.size) (O0 : Old Z n0 h0) (SF : Sta Z Z.heap "jdk/internal/util/Preconditions" "SIOOBE_FORMATTER" "Ljava/util/function/BiFunction;" fs_) (hc_s : fs_.category = 1) (V0 : Arv Z h0 da kD .byte zv (tab N g) (.int (0 : Int32))) (hp1 : ¬ p1 < (0 : Int32)) (hp2 : ¬ p2 < p1) (hp3 : ¬ (zv >>> ((1 : Int32) &&& 31)) < p2) :
    MetFree l (⟨"java/lang/StringUTF16", "checkBoundsBeginEnd", "(II[B)V"⟩ : MethodName) (head1 (Jvm.Cond.code (⟨"java/lang/StringUTF16", "checkBoundsBeginEnd", "(II[B)V"⟩ : MethodName) jdk_52_method_93_code 3 none :: ws) ({ frames := 2, cells := 0, slots := 0, locals := 60 } : Room)) (fun a U => a = #[(.int p1), (.int p2), (.ref da)] ∧ Z.Warmed39 U.vm ∧ U.heap = h0) (fun _ _ _ _ _ => True) (fun _ U o U' => ∃ v L, o = .returned v ∧ (Q47 Z p1 p2 da fs_ kD zv N g h0 n0) v U'.heap L ∧ FrameEnd U o U' L ({ frames := 2, cells := 0, slots := 0, locals := 60 } : Room).cells ({ frames := 2, cells := 0, slots := 0, locals := 60 } : Room).slots) := by
  refine MetFree.of_bodySF (plainFor_of_name pn_47) hisR ?_
  intro p e s m args below meth c s₁ Bd hml0 hP hK
  obtain ⟨rfl, hZ, hh⟩ := hP
  have hx := Bd.exec
  have hby := Bd.bytes
  have hml : c.maxLocals = 3 := hml0
  have hown : s.vm.findClass "java/lang/StringUTF16" = some m.cls := findClass_of_methodNamed Bd.named
  have hnm := (name_of_methodNamed Bd.named Bd.method).1
  have X0 : Stand p l e ({ frames := 2, cells := 0, slots := 0, locals := 60 } : Room) s m #[(.int p1), (.int p2), (.ref da)] below meth c s₁ [] 0 0 := Stand.of_body Bd
  have e0 : s₁.heap = h0 := by rw [← hh, Bd.state]; rfl
  have N0 := Fr.nil n0
  show Own.Fin p e below _ (Own.Post s (Q47 Z p1 p2 da fs_ kD zv N g h0 n0) ({ frames := 2, cells := 0, slots := 0, locals := 60 } : Room).cells ({ frames := 2, cells := 0, slots := 0, locals := 60 } : Room).slots)
  refine Own.start (ef_47 m p1 p2 da) ?_
  show Own.Fin p e below (s₁.setTop (mkF m 0 #[.val (.int p1), .val (.int p2), .val (.ref da)] [])) _
  refine Own.go (fun t k => XS.iloadN X0.here hx rfl (hb hby d47_0) rfl k) ?_
  show Own.Fin p e below (s₁.setTop (mkF m 1 #[.val (.int p1), .val (.int p2), .val (.ref da)] [(.int p1)])) _
  refine Own.go (fun t k => XS.iloadN X0.here hx rfl (hb hby d47_1) rfl k) ?_
  show Own.Fin p e below (s₁.setTop (mkF m 2 #[.val (.int p1), .val (.int p2), .val (.ref da)] [(.int p2), (.int p1)])) _
  refine Own.go (fun t k => XS.aloadN X0.here hx rfl (hb hby d47_2) rfl rfl k) ?_
  show Own.Fin p e below (s₁.setTop (mkF m 3 #[.val (.int p1), .val (.int p2), .val (.ref da)] [(.ref da), (.int p2), (.int p1)])) _
  refine Own.cS X0 hx hZ hown (hw _ (List.mem_of_getElem? (i := 240) rfl)) (hw _ (List.mem_of_getElem? (i := 241) rfl)) (hw _ (List.mem_of_getElem? (i := 225) rfl)) (hw _ (List.mem_of_getElem? (i := 242) rfl)) (by decide) (rm43 l Z a0 hw [] da kD zv N g h0 n0 Z0 V0) (by decide) (W := 2) (by decide) (argsL := [(.ref da)]) (rest := [(.int p2), (.int p1)]) (by rw [hml]; rfl) (lenOf pd_3 rfl) rfl (Nat.le_of_eq rfl) (hb hby d47_3) e0 (by decide) (by decide) ?_
  intro T1 L1 v1 X1 hQ1
  obtain ⟨rfl, N1q, e1⟩ := hQ1
  have N1 := Fr.app N0 N1q
  show Own.Fin p e below (T1.setTop (mkF m 6 #[.val (.int p1), .val (.int p2), .val (.ref da)] [(.int (zv >>> ((1 : Int32) &&& 31))), (.int p2), (.int p1)])) _
  refine Own.cS X1 hx hZ hown (hw _ (List.mem_of_getElem? (i := 255) rfl)) (hw _ (List.mem_of_getElem? (i := 256) rfl)) (hw _ (List.mem_of_getElem? (i := 9) rfl)) (hw _ (List.mem_of_getElem? (i := 257) rfl)) (by decide) (rm48 l Z a0 hw [] p1 p2 (zv >>> ((1 : Int32) &&& 31)) fs_ h0 n0 Z0 O0 SF hc_s hp1 hp2 hp3) (by decide) (W := 0) (by decide) (argsL := [(.int p1), (.int p2), (.int (zv >>> ((1 : Int32) &&& 31)))]) (rest := []) (by rw [hml]; rfl) (lenOf pd_5 rfl) rfl (Nat.le_of_eq rfl) (hb hby d47_6) e1 (by decide) (by decide) ?_
  intro T2 L2 v2 X2 hQ2
  obtain ⟨rfl, N2q, e2⟩ := hQ2
  have N2 := Fr.app N1 N2q
  show Own.Fin p e below (T2.setTop (mkF m 9 #[.val (.int p1), .val (.int p2), .val (.ref da)] [])) _
  refine Own.retV X2 hx Bd.notSynchronized Bd.returns (hb hby d47_9) (by decide) (by decide) ?_
  exact ⟨rfl, N2, e2⟩
theorem d52_0 : decode jdk_52_method_91_code 0 = .ok (.iload_n 0, 1) := by decide +kernel
theorem d52_1 : decode jdk_52_method_91_code 1 = .ok (.aload_n 1, 1) := by decide +kernel
theorem d52_2 : decode jdk_52_method_91_code 2 = .ok (.invokestatic 48, 3) := by decide +kernel
theorem d52_5 : decode jdk_52_method_91_code 5 = .ok (.invokestatic 414, 3) := by decide +kernel
theorem d52_8 : decode jdk_52_method_91_code 8 = .ok (.return_, 1) := by decide +kernel
theorem pd_6 : parseMethodDescriptor "(II)V" = some ⟨[.int, .int], none⟩ := by decide +kernel
theorem pn_52 : plainName "java/lang/StringUTF16" = true := by first | (simp [plainName, overriddenIn]; done) | decide +kernel
theorem ef_52 (m : MethodId) (p1 : Int32) (da : Addr)  : entryFrame m #[(.int p1), (.ref da)] 2 = mkF m 0 #[.val (.int p1), .val (.ref da)] [] := by first | (simp [entryFrame, mkF, argsToLocals, Value.category]; done) | rfl
def Q52 (Z : State) (p1 : Int32) (da : Addr) (fs_ : Value) (kD : ClassId) (zv : Int32) (N : Nat) (g : Nat → Value) (h0 : Heap) (n0 : Nat) : Option Value → Heap → List Loc → Prop := fun v h L => v = none ∧ Fr n0 L ∧ h = h0
set_option maxRecDepth 65536 in
set_option maxHeartbeats 40000000 in
theorem rm52 (l : Launch) (Z : State) (a0 : Array Value) (hw : ∀ d ∈ tables_1, d.before a0 Z = true) (ws : List Jvm.Cond) (p1 : Int32) (da : Addr) (fs_ : Value) (kD : ClassId) (zv : Int32) (N : Nat) (g : Nat → Value) (h0 : Heap) (n0 : Nat) (Z0 : n0 ≤ h0.size) (O0 : Old Z n0 h0) (SF : Sta Z Z.heap "jdk/internal/util/Preconditions" "SIOOBE_FORMATTER" "Ljava/util/function/BiFunction;" fs_) (hc_s : fs_.category = 1) (V0 : Arv Z h0 da kD .byte zv (tab N g) (.int (0 : Int32))) (hp1 : ¬ p1 < (0 : Int32)) (hp2 : p1 < (zv >>> ((1 : Int32) &&& 31))) :
    MetFree l (⟨"java/lang/StringUTF16", "checkIndex", "(I[B)V"⟩ : MethodName) (head1 (Jvm.Cond.code (⟨"java/lang/StringUTF16", "checkIndex", "(I[B)V"⟩ : MethodName) jdk_52_method_91_code 2 none :: ws) ({ frames := 2, cells := 0, slots := 0, locals := 60 } : Room)) (fun a U => a = #[(.int p1), (.ref da)] ∧ Z.Warmed39 U.vm ∧ U.heap = h0) (fun _ _ _ _ _ => True) (fun _ U o U' => ∃ v L, o = .returned v ∧ (Q52 Z p1 da fs_ kD zv N g h0 n0) v U'.heap L ∧ FrameEnd U o U' L ({ frames := 2, cells := 0, slots := 0, locals := 60 } : Room).cells ({ frames := 2, cells := 0, slots := 0, locals := 60 } : Room).slots) := by
  refine MetFree.of_bodySF (plainFor_of_name pn_52) hisR ?_
  intro p e s m args below meth c s₁ Bd hml0 hP hK
  obtain ⟨rfl, hZ, hh⟩ := hP
  have hx := Bd.exec
  have hby := Bd.bytes
  have hml : c.maxLocals = 2 := hml0
  have hown : s.vm.findClass "java/lang/StringUTF16" = some m.cls := findClass_of_methodNamed Bd.named
  have hnm := (name_of_methodNamed Bd.named Bd.method).1
  have X0 : Stand p l e ({ frames := 2, cells := 0, slots := 0, locals := 60 } : Room) s m #[(.int p1), (.ref da)] below meth c s₁ [] 0 0 := Stand.of_body Bd
  have e0 : s₁.heap = h0 := by rw [← hh, Bd.state]; rfl
  have N0 := Fr.nil n0
  show Own.Fin p e below _ (Own.Post s (Q52 Z p1 da fs_ kD zv N g h0 n0) ({ frames := 2, cells := 0, slots := 0, locals := 60 } : Room).cells ({ frames := 2, cells := 0, slots := 0, locals := 60 } : Room).slots)
  refine Own.start (ef_52 m p1 da) ?_
  show Own.Fin p e below (s₁.setTop (mkF m 0 #[.val (.int p1), .val (.ref da)] [])) _
  refine Own.go (fun t k => XS.iloadN X0.here hx rfl (hb hby d52_0) rfl k) ?_
  show Own.Fin p e below (s₁.setTop (mkF m 1 #[.val (.int p1), .val (.ref da)] [(.int p1)])) _
  refine Own.go (fun t k => XS.aloadN X0.here hx rfl (hb hby d52_1) rfl rfl k) ?_
  show Own.Fin p e below (s₁.setTop (mkF m 2 #[.val (.int p1), .val (.ref da)] [(.ref da), (.int p1)])) _
  refine Own.cS X0 hx hZ hown (hw _ (List.mem_of_getElem? (i := 240) rfl)) (hw _ (List.mem_of_getElem? (i := 241) rfl)) (hw _ (List.mem_of_getElem? (i := 225) rfl)) (hw _ (List.mem_of_getElem? (i := 242) rfl)) (by decide) (rm43 l Z a0 hw [] da kD zv N g h0 n0 Z0 V0) (by decide) (W := 1) (by decide) (argsL := [(.ref da)]) (rest := [(.int p1)]) (by rw [hml]; rfl) (lenOf pd_3 rfl) rfl (Nat.le_of_eq rfl) (hb hby d52_2) e0 (by decide) (by decide) ?_
  intro T1 L1 v1 X1 hQ1
  obtain ⟨rfl, N1q, e1⟩ := hQ1
  have N1 := Fr.app N0 N1q
  show Own.Fin p e below (T1.setTop (mkF m 5 #[.val (.int p1), .val (.ref da)] [(.int (zv >>> ((1 : Int32) &&& 31))), (.int p1)])) _
  refine Own.cS X1 hx hZ hown (hw _ (List.mem_of_getElem? (i := 276) rfl)) (hw _ (List.mem_of_getElem? (i := 212) rfl)) (hw _ (List.mem_of_getElem? (i := 9) rfl)) (hw _ (List.mem_of_getElem? (i := 213) rfl)) (by decide) (rm35 l Z a0 hw [] p1 (zv >>> ((1 : Int32) &&& 31)) fs_ h0 n0 Z0 O0 SF hc_s hp1 hp2) (by decide) (W := 0) (by decide) (argsL := [(.int p1), (.int (zv >>> ((1 : Int32) &&& 31)))]) (rest := []) (by rw [hml]; rfl) (lenOf pd_6 rfl) rfl (Nat.le_of_eq rfl) (hb hby d52_5) e1 (by decide) (by decide) ?_
  intro T2 L2 v2 X2 hQ2
  obtain ⟨rfl, N2q, e2⟩ := hQ2
  have N2 := Fr.app N1 N2q
  show Own.Fin p e below (T2.setTop (mkF m 8 #[.val (.int p1), .val (.ref da)] [])) _
  refine Own.retV X2 hx Bd.notSynchronized Bd.returns (hb hby d52_8) (by decide) (by decide) ?_
  exact ⟨rfl, N2, e2⟩
theorem own_b0 (n : Nat) (h : n < 65536) : nar .byte (((Int32.ofNat n) >>> ((0 : Int32) &&& 31)).toInt8.toInt32) = sb (n % 256) := by
  show (((Int32.ofNat n) >>> ((0 : Int32) &&& 31)).toInt8.toInt32).toInt8.toInt32 = _
  apply sb_of _ _ (Nat.mod_lt _ (by decide))
  have h1 := c_ishr (Int32.ofNat n) 0 0 (by decide)
  have h2 := c_i2b ((Int32.ofNat n) >>> ((0 : Int32) &&& 31))
  rw [Int32.toInt_ofNat_small (by omega)] at h1
  simp only [Nat.pow_zero] at h1
  omega
theorem own_b8 (n : Nat) (h : n < 65536) : nar .byte (((Int32.ofNat n) >>> ((8 : Int32) &&& 31)).toInt8.toInt32) = sb (n / 256) := by
  show (((Int32.ofNat n) >>> ((8 : Int32) &&& 31)).toInt8.toInt32).toInt8.toInt32 = _
  apply sb_of _ _ (by omega)
  have h1 := c_ishr (Int32.ofNat n) 8 8 (by decide)
  have h2 := c_i2b ((Int32.ofNat n) >>> ((8 : Int32) &&& 31))
  rw [Int32.toInt_ofNat_small (by omega)] at h1
  omega
theorem own_shl (i : Nat) (h : i < 1000) : (Int32.ofNat i <<< ((1 : Int32) &&& 31)) = Int32.ofNat (2 * i) := by
  have h1 := c_ishl (Int32.ofNat i) 1 1 (by decide)
  have b1 := (Int32.ofNat i <<< ((1 : Int32) &&& 31)).toInt_lt; have b2 := (Int32.ofNat i <<< ((1 : Int32) &&& 31)).le_toInt
  rw [Int32.toInt_ofNat_small (by omega)] at h1
  apply Int32.toInt_inj.mp
  rw [Int32.toInt_ofNat_small (by omega)]
  omega
theorem own_m : ∀ b < 256, (sb b &&& (255 : Int32)) = Int32.ofNat b := by decide +kernel
theorem own_gc (lo hi : Nat) (h1 : lo < 256) (h2 : hi < 256) : nar .char ((((((sb lo &&& (255 : Int32)) <<< ((0 : Int32) &&& 31))) ||| (((sb hi &&& (255 : Int32)) <<< ((8 : Int32) &&& 31))))).toUInt32.toUInt16.toUInt32.toInt32) = Int32.ofNat (lo + 256 * hi) := by
  rw [own_m lo h1, own_m hi h2]
  have a1 := c_ishl (Int32.ofNat lo) 0 0 (by decide)
  have a2 := c_ishl (Int32.ofNat hi) 8 8 (by decide)
  rw [Int32.toInt_ofNat_small (by omega)] at a1 a2
  simp only [Nat.pow_zero] at a1
  have b1 := (Int32.ofNat lo <<< ((0 : Int32) &&& 31)).toInt_lt; have b2 := (Int32.ofNat lo <<< ((0 : Int32) &&& 31)).le_toInt
  have b3 := (Int32.ofNat hi <<< ((8 : Int32) &&& 31)).toInt_lt; have b4 := (Int32.ofNat hi <<< ((8 : Int32) &&& 31)).le_toInt
  have a3 := c_or' (Int32.ofNat lo <<< ((0 : Int32) &&& 31)) (Int32.ofNat hi <<< ((8 : Int32) &&& 31)) 8 (by decide) 256 (by decide) (by omega) (by omega) (by omega)
  have b5 := (Int32.ofNat lo <<< ((0 : Int32) &&& 31) ||| Int32.ofNat hi <<< ((8 : Int32) &&& 31)).toInt_lt; have b6 := (Int32.ofNat lo <<< ((0 : Int32) &&& 31) ||| Int32.ofNat hi <<< ((8 : Int32) &&& 31)).le_toInt
  have a4 := c_i2c (Int32.ofNat lo <<< ((0 : Int32) &&& 31) ||| Int32.ofNat hi <<< ((8 : Int32) &&& 31))
  have a5 := c_i2c (Int32.ofNat lo <<< ((0 : Int32) &&& 31) ||| Int32.ofNat hi <<< ((8 : Int32) &&& 31)).toUInt32.toUInt16.toUInt32.toInt32
  show ((Int32.ofNat lo <<< ((0 : Int32) &&& 31) ||| Int32.ofNat hi <<< ((8 : Int32) &&& 31)).toUInt32.toUInt16.toUInt32.toInt32).toUInt32.toUInt16.toUInt32.toInt32 = _
  apply Int32.toInt_inj.mp
  rw [Int32.toInt_ofNat_small (by omega)]
  omega
def PutC (g g' : Nat → Value) (i c : Nat) : Prop := (∀ k, k ≠ 2 * i → k ≠ 2 * i + 1 → g' k = g k) ∧ g' (2 * i) = .int (sb (c % 256)) ∧ g' (2 * i + 1) = .int (sb (c / 256))
theorem putC_ok {g g1 g2 : Nat → Value} {i c : Nat} {v1 v2 : Int32} (h1 : upd g (2 * i) (.int v1) = g1) (h2 : upd g1 (2 * i + 1) (.int v2) = g2) (e1 : v1 = sb (c % 256)) (e2 : v2 = sb (c / 256)) : PutC g g2 i c := by
  subst h1 h2 e1 e2
  refine ⟨fun k a b => ?_, ?_, ?_⟩
  · simp only [upd]; rw [if_neg b, if_neg a]
  · simp only [upd]; rw [if_neg (by omega)]; simp
  · simp [upd]
theorem d50_0 : decode jdk_52_method_4_code 0 = .ok (.getstatic 44, 3) := by decide +kernel
theorem d50_3 : decode jdk_52_method_4_code 3 = .ok (.ifCond .ne 25, 3) := by decide +kernel
theorem d50_28 : decode jdk_52_method_4_code 28 = .ok (.iload_n 1, 1) := by decide +kernel
theorem d50_29 : decode jdk_52_method_4_code 29 = .ok (.iconst 1, 1) := by decide +kernel
theorem d50_30 : decode jdk_52_method_4_code 30 = .ok (.ishl, 1) := by decide +kernel
theorem d50_31 : decode jdk_52_method_4_code 31 = .ok (.istore_n 1, 1) := by decide +kernel
theorem d50_32 : decode jdk_52_method_4_code 32 = .ok (.aload_n 0, 1) := by decide +kernel
theorem d50_33 : decode jdk_52_method_4_code 33 = .ok (.iload_n 1, 1) := by decide +kernel
theorem d50_34 : decode jdk_52_method_4_code 34 = .ok (.iinc 1 1, 3) := by decide +kernel
theorem d50_37 : decode jdk_52_method_4_code 37 = .ok (.iload_n 2, 1) := by decide +kernel
theorem d50_38 : decode jdk_52_method_4_code 38 = .ok (.getstatic 59, 3) := by decide +kernel
theorem d50_41 : decode jdk_52_method_4_code 41 = .ok (.ishr, 1) := by decide +kernel
theorem d50_42 : decode jdk_52_method_4_code 42 = .ok (.i2b, 1) := by decide +kernel
theorem d50_43 : decode jdk_52_method_4_code 43 = .ok (.bastore, 1) := by decide +kernel
theorem d50_44 : decode jdk_52_method_4_code 44 = .ok (.aload_n 0, 1) := by decide +kernel
theorem d50_45 : decode jdk_52_method_4_code 45 = .ok (.iload_n 1, 1) := by decide +kernel
theorem d50_46 : decode jdk_52_method_4_code 46 = .ok (.iload_n 2, 1) := by decide +kernel
theorem d50_47 : decode jdk_52_method_4_code 47 = .ok (.getstatic 63, 3) := by decide +kernel
theorem d50_50 : decode jdk_52_method_4_code 50 = .ok (.ishr, 1) := by decide +kernel
theorem d50_51 : decode jdk_52_method_4_code 51 = .ok (.i2b, 1) := by decide +kernel
theorem d50_52 : decode jdk_52_method_4_code 52 = .ok (.bastore, 1) := by decide +kernel
theorem d50_53 : decode jdk_52_method_4_code 53 = .ok (.return_, 1) := by decide +kernel
theorem pn_50 : plainName "java/lang/StringUTF16" = true := by first | (simp [plainName, overriddenIn]; done) | decide +kernel
theorem ef_50 (m : MethodId) (da : Addr) (iv : Int32) (cv : Int32)  : entryFrame m #[(.ref da), (.int iv), (.int cv)] 3 = mkF m 0 #[.val (.ref da), .val (.int iv), .val (.int cv)] [] := by first | (simp [entryFrame, mkF, argsToLocals, Value.category]; done) | rfl
def Q50 (Z : State) (da : Addr) (iv : Int32) (cv : Int32) (kD : ClassId) (zv : Int32) (N : Nat) (g : Nat → Value) (iN cN : Nat) (h0 : Heap) (n0 : Nat) : Option Value → Heap → List Loc → Prop := fun v h L => ∃ g', v = none ∧ Fr n0 L ∧ Keep h0 h [da] ∧ Arv Z h da kD .byte zv (tab N g') (.int (0 : Int32)) ∧ PutC g g' iN cN
set_option maxRecDepth 65536 in
set_option maxHeartbeats 40000000 in
theorem rm50 (l : Launch) (Z : State) (a0 : Array Value) (hw : ∀ d ∈ tables_1, d.before a0 Z = true) (ws : List Jvm.Cond) (da : Addr) (iv : Int32) (cv : Int32) (kD : ClassId) (zv : Int32) (N : Nat) (g : Nat → Value) (iN cN : Nat) (h0 : Heap) (n0 : Nat) (Z0 : n0 ≤ h0.size) (O0 : Old Z n0 h0) (SD : Sta Z Z.heap "java/lang/StringUTF16" "$assertionsDisabled" "Z" (.int (1 : Int32))) (SH : Sta Z Z.heap "java/lang/StringUTF16" "HI_BYTE_SHIFT" "I" (.int (0 : Int32))) (SL : Sta Z Z.heap "java/lang/StringUTF16" "LO_BYTE_SHIFT" "I" (.int (8 : Int32))) (V0 : Arv Z h0 da kD .byte zv (tab N g) (.int (0 : Int32))) (ga : n0 ≤ da) (hz : zv = Int32.ofNat N) (hN : N < 2147483648) (hi : iv = Int32.ofNat iN) (hi5 : iN < 500) (hiN : 2 * iN + 1 < N) (hc : cv = Int32.ofNat cN) (hcN : cN < 65536) :
    MetFree l (⟨"java/lang/StringUTF16", "putChar", "([BII)V"⟩ : MethodName) (head1 (Jvm.Cond.code (⟨"java/lang/StringUTF16", "putChar", "([BII)V"⟩ : MethodName) jdk_52_method_4_code 3 none :: ws) ({ frames := 0, cells := 0, slots := 0, locals := 0 } : Room)) (fun a U => a = #[(.ref da), (.int iv), (.int cv)] ∧ Z.Warmed39 U.vm ∧ U.heap = h0) (fun _ _ _ _ _ => True) (fun _ U o U' => ∃ v L, o = .returned v ∧ (Q50 Z da iv cv kD zv N g iN cN h0 n0) v U'.heap L ∧ FrameEnd U o U' L ({ frames := 0, cells := 0, slots := 0, locals := 0 } : Room).cells ({ frames := 0, cells := 0, slots := 0, locals := 0 } : Room).slots) := by
  refine MetFree.of_bodySF (plainFor_of_name pn_50) hisR ?_
  intro p e s m args below meth c s₁ Bd hml0 hP hK
  obtain ⟨rfl, hZ, hh⟩ := hP
  have hx := Bd.exec
  have hby := Bd.bytes
  have hml : c.maxLocals = 3 := hml0
  have hown : s.vm.findClass "java/lang/StringUTF16" = some m.cls := findClass_of_methodNamed Bd.named
  have hnm := (name_of_methodNamed Bd.named Bd.method).1
  have X0 : Stand p l e ({ frames := 0, cells := 0, slots := 0, locals := 0 } : Room) s m #[(.ref da), (.int iv), (.int cv)] below meth c s₁ [] 0 0 := Stand.of_body Bd
  have e0 : s₁.heap = h0 := by rw [← hh, Bd.state]; rfl
  have N0 := Fr.nil n0
  show Own.Fin p e below _ (Own.Post s (Q50 Z da iv cv kD zv N g iN cN h0 n0) ({ frames := 0, cells := 0, slots := 0, locals := 0 } : Room).cells ({ frames := 0, cells := 0, slots := 0, locals := 0 } : Room).slots)
  refine Own.start (ef_50 m da iv cv) ?_
  show Own.Fin p e below (s₁.setTop (mkF m 0 #[.val (.ref da), .val (.int iv), .val (.int cv)] [])) _
  obtain ⟨T1, X1, e1, st1⟩ := getS2 X0 hx hZ hown (host := "") (Or.inl (hw _ (List.mem_of_getElem? (i := 265) rfl))) Via.refl e0 (SD.ext O0.2) (g := (mkF m 0 #[.val (.ref da), .val (.int iv), .val (.int cv)] [])) rfl (hb hby d50_0)
  refine Own.go st1 ?_
  show Own.Fin p e below (T1.setTop (mkF m 3 #[.val (.ref da), .val (.int iv), .val (.int cv)] [(.int (1 : Int32))])) _
  have hc3_1 : ¬ ((1 : Int32) = (0 : Int32)) := by decide
  refine Own.go (fun t k => XS.ifYes X1.here hx rfl (pc0 := 3) (pc' := 28) rfl (hb hby d50_3) rfl ((if0 _ _).trans (feq hc3_1).2) (by decide) (by decide) k) ?_
  show Own.Fin p e below (T1.setTop (mkF m 28 #[.val (.ref da), .val (.int iv), .val (.int cv)] [])) _
  refine Own.go (fun t k => XS.iloadN X1.here hx rfl (hb hby d50_28) rfl k) ?_
  show Own.Fin p e below (T1.setTop (mkF m 29 #[.val (.ref da), .val (.int iv), .val (.int cv)] [(.int iv)])) _
  refine Own.go (fun t k => XS.iconst X1.here hx rfl (hb hby d50_29) k) ?_
  show Own.Fin p e below (T1.setTop (mkF m 30 #[.val (.ref da), .val (.int iv), .val (.int cv)] [(.int (1 : Int32)), (.int iv)])) _
  refine Own.go (fun t k => XS.ishl X1.here hx rfl (hb hby d50_30) rfl k) ?_
  show Own.Fin p e below (T1.setTop (mkF m 31 #[.val (.ref da), .val (.int iv), .val (.int cv)] [(.int ((iv <<< ((1 : Int32) &&& 31))))])) _
  rw [show ((iv <<< ((1 : Int32) &&& 31))) = (Int32.ofNat (2 * iN)) from (by rw [hi]; exact own_shl iN (by omega))]
  show Own.Fin p e below (T1.setTop (mkF m 31 #[.val (.ref da), .val (.int iv), .val (.int cv)] [(.int (Int32.ofNat (2 * iN)))])) _
  refine Own.go (fun t k => XS.istoreN X1.here hx rfl (hb hby d50_31) rfl (l' := #[.val (.ref da), .val (.int (Int32.ofNat (2 * iN))), .val (.int cv)]) rfl k) ?_
  show Own.Fin p e below (T1.setTop (mkF m 32 #[.val (.ref da), .val (.int (Int32.ofNat (2 * iN))), .val (.int cv)] [])) _
  refine Own.go (fun t k => XS.aloadN X1.here hx rfl (hb hby d50_32) rfl rfl k) ?_
  show Own.Fin p e below (T1.setTop (mkF m 33 #[.val (.ref da), .val (.int (Int32.ofNat (2 * iN))), .val (.int cv)] [(.ref da)])) _
  refine Own.go (fun t k => XS.iloadN X1.here hx rfl (hb hby d50_33) rfl k) ?_
  show Own.Fin p e below (T1.setTop (mkF m 34 #[.val (.ref da), .val (.int (Int32.ofNat (2 * iN))), .val (.int cv)] [(.int (Int32.ofNat (2 * iN))), (.ref da)])) _
  refine Own.go (fun t k => XS.iinc X1.here hx rfl (hb hby d50_34) rfl (l' := #[.val (.ref da), .val (.int ((Int32.ofNat (2 * iN)) + (1 : Int32))), .val (.int cv)]) rfl k) ?_
  show Own.Fin p e below (T1.setTop (mkF m 37 #[.val (.ref da), .val (.int ((Int32.ofNat (2 * iN)) + (1 : Int32))), .val (.int cv)] [(.int (Int32.ofNat (2 * iN))), (.ref da)])) _
  rw [show ((Int32.ofNat (2 * iN)) + (1 : Int32)) = (Int32.ofNat (2 * iN + 1)) from (Int32.ofNat_add _ 1).symm]
  show Own.Fin p e below (T1.setTop (mkF m 37 #[.val (.ref da), .val (.int (Int32.ofNat (2 * iN + 1))), .val (.int cv)] [(.int (Int32.ofNat (2 * iN))), (.ref da)])) _
  refine Own.go (fun t k => XS.iloadN X1.here hx rfl (hb hby d50_37) rfl k) ?_
  show Own.Fin p e below (T1.setTop (mkF m 38 #[.val (.ref da), .val (.int (Int32.ofNat (2 * iN + 1))), .val (.int cv)] [(.int cv), (.int (Int32.ofNat (2 * iN))), (.ref da)])) _
  obtain ⟨T3, X3, e3, st3⟩ := getS2 X1 hx hZ hown (host := "") (Or.inl (hw _ (List.mem_of_getElem? (i := 266) rfl))) Via.refl e1 (SH.ext O0.2) (g := (mkF m 38 #[.val (.ref da), .val (.int (Int32.ofNat (2 * iN + 1))), .val (.int cv)] [(.int cv), (.int (Int32.ofNat (2 * iN))), (.ref da)])) rfl (hb hby d50_38)
  refine Own.go st3 ?_
  show Own.Fin p e below (T3.setTop (mkF m 41 #[.val (.ref da), .val (.int (Int32.ofNat (2 * iN + 1))), .val (.int cv)] [(.int (0 : Int32)), (.int cv), (.int (Int32.ofNat (2 * iN))), (.ref da)])) _
  refine Own.go (fun t k => XS.ishr X3.here hx rfl (hb hby d50_41) rfl k) ?_
  show Own.Fin p e below (T3.setTop (mkF m 42 #[.val (.ref da), .val (.int (Int32.ofNat (2 * iN + 1))), .val (.int cv)] [(.int ((cv >>> ((0 : Int32) &&& 31)))), (.int (Int32.ofNat (2 * iN))), (.ref da)])) _
  refine Own.go (fun t k => XS.i2b X3.here hx rfl (hb hby d50_42) rfl k) ?_
  show Own.Fin p e below (T3.setTop (mkF m 43 #[.val (.ref da), .val (.int (Int32.ofNat (2 * iN + 1))), .val (.int cv)] [(.int ((((cv >>> ((0 : Int32) &&& 31)))).toInt8.toInt32)), (.int (Int32.ofNat (2 * iN))), (.ref da)])) _
  refine stBT X3 hx hZ e3 V0 (hb hby d50_43) hz hN (2 * iN) rfl (by omega) ?_
  intro T4 h4 X4 e4 W4 V4
  have N4 := Fr.snoc X4 N0 ga
  have Z4 : n0 ≤ h4.size := by rw [W4.size]; exact Z0
  have K4 := (Keep.refl h0 [da]).wr W4 (Or.inl (List.mem_cons_self ..))
  have O4 := O0.wr W4 ga
  generalize hg4 : upd g _ _ = g4 at V4
  show Own.Fin p e below (T4.setTop (mkF m 44 #[.val (.ref da), .val (.int (Int32.ofNat (2 * iN + 1))), .val (.int cv)] [])) _
  refine Own.go (fun t k => XS.aloadN X4.here hx rfl (hb hby d50_44) rfl rfl k) ?_
  show Own.Fin p e below (T4.setTop (mkF m 45 #[.val (.ref da), .val (.int (Int32.ofNat (2 * iN + 1))), .val (.int cv)] [(.ref da)])) _
  refine Own.go (fun t k => XS.iloadN X4.here hx rfl (hb hby d50_45) rfl k) ?_
  show Own.Fin p e below (T4.setTop (mkF m 46 #[.val (.ref da), .val (.int (Int32.ofNat (2 * iN + 1))), .val (.int cv)] [(.int (Int32.ofNat (2 * iN + 1))), (.ref da)])) _
  refine Own.go (fun t k => XS.iloadN X4.here hx rfl (hb hby d50_46) rfl k) ?_
  show Own.Fin p e below (T4.setTop (mkF m 47 #[.val (.ref da), .val (.int (Int32.ofNat (2 * iN + 1))), .val (.int cv)] [(.int cv), (.int (Int32.ofNat (2 * iN + 1))), (.ref da)])) _
  obtain ⟨T5, X5, e5, st5⟩ := getS2 X4 hx hZ hown (host := "") (Or.inl (hw _ (List.mem_of_getElem? (i := 267) rfl))) Via.refl e4 (SL.ext O4.2) (g := (mkF m 47 #[.val (.ref da), .val (.int (Int32.ofNat (2 * iN + 1))), .val (.int cv)] [(.int cv), (.int (Int32.ofNat (2 * iN + 1))), (.ref da)])) rfl (hb hby d50_47)
  refine Own.go st5 ?_
  show Own.Fin p e below (T5.setTop (mkF m 50 #[.val (.ref da), .val (.int (Int32.ofNat (2 * iN + 1))), .val (.int cv)] [(.int (8 : Int32)), (.int cv), (.int (Int32.ofNat (2 * iN + 1))), (.ref da)])) _
  refine Own.go (fun t k => XS.ishr X5.here hx rfl (hb hby d50_50) rfl k) ?_
  show Own.Fin p e below (T5.setTop (mkF m 51 #[.val (.ref da), .val (.int (Int32.ofNat (2 * iN + 1))), .val (.int cv)] [(.int ((cv >>> ((8 : Int32) &&& 31)))), (.int (Int32.ofNat (2 * iN + 1))), (.ref da)])) _
  refine Own.go (fun t k => XS.i2b X5.here hx rfl (hb hby d50_51) rfl k) ?_
  show Own.Fin p e below (T5.setTop (mkF m 52 #[.val (.ref da), .val (.int (Int32.ofNat (2 * iN + 1))), .val (.int cv)] [(.int ((((cv >>> ((8 : Int32) &&& 31)))).toInt8.toInt32)), (.int (Int32.ofNat (2 * iN + 1))), (.ref da)])) _
  refine stBT X5 hx hZ e5 V4 (hb hby d50_52) hz hN (2 * iN + 1) rfl (by omega) ?_
  intro T6 h6 X6 e6 W6 V6
  have N6 := Fr.snoc X6 N4 ga
  have Z6 : n0 ≤ h6.size := by rw [W6.size]; exact Z4
  have K6 := K4.wr W6 (Or.inl (List.mem_cons_self ..))
  have O6 := O4.wr W6 ga
  generalize hg6 : upd g4 _ _ = g6 at V6
  show Own.Fin p e below (T6.setTop (mkF m 53 #[.val (.ref da), .val (.int (Int32.ofNat (2 * iN + 1))), .val (.int cv)] [])) _
  refine Own.retV X6 hx Bd.notSynchronized Bd.returns (hb hby d50_53) (by decide) (by decide) ?_
  exact ⟨g6, rfl, N6, by rw [e6]; exact K6, by rw [e6]; exact V6, putC_ok hg4 hg6 (by rw [hc]; exact own_b0 cN hcN) (by rw [hc]; exact own_b8 cN hcN)⟩
theorem d53_0 : decode jdk_52_method_5_code 0 = .ok (.getstatic 44, 3) := by decide +kernel
theorem d53_3 : decode jdk_52_method_5_code 3 = .ok (.ifCond .ne 25, 3) := by decide +kernel
theorem d53_28 : decode jdk_52_method_5_code 28 = .ok (.iload_n 1, 1) := by decide +kernel
theorem d53_29 : decode jdk_52_method_5_code 29 = .ok (.iconst 1, 1) := by decide +kernel
theorem d53_30 : decode jdk_52_method_5_code 30 = .ok (.ishl, 1) := by decide +kernel
theorem d53_31 : decode jdk_52_method_5_code 31 = .ok (.istore_n 1, 1) := by decide +kernel
theorem d53_32 : decode jdk_52_method_5_code 32 = .ok (.aload_n 0, 1) := by decide +kernel
theorem d53_33 : decode jdk_52_method_5_code 33 = .ok (.iload_n 1, 1) := by decide +kernel
theorem d53_34 : decode jdk_52_method_5_code 34 = .ok (.iinc 1 1, 3) := by decide +kernel
theorem d53_37 : decode jdk_52_method_5_code 37 = .ok (.baload, 1) := by decide +kernel
theorem d53_38 : decode jdk_52_method_5_code 38 = .ok (.sipush 255, 3) := by decide +kernel
theorem d53_41 : decode jdk_52_method_5_code 41 = .ok (.iand, 1) := by decide +kernel
theorem d53_42 : decode jdk_52_method_5_code 42 = .ok (.getstatic 59, 3) := by decide +kernel
theorem d53_45 : decode jdk_52_method_5_code 45 = .ok (.ishl, 1) := by decide +kernel
theorem d53_46 : decode jdk_52_method_5_code 46 = .ok (.aload_n 0, 1) := by decide +kernel
theorem d53_47 : decode jdk_52_method_5_code 47 = .ok (.iload_n 1, 1) := by decide +kernel
theorem d53_48 : decode jdk_52_method_5_code 48 = .ok (.baload, 1) := by decide +kernel
theorem d53_49 : decode jdk_52_method_5_code 49 = .ok (.sipush 255, 3) := by decide +kernel
theorem d53_52 : decode jdk_52_method_5_code 52 = .ok (.iand, 1) := by decide +kernel
theorem d53_53 : decode jdk_52_method_5_code 53 = .ok (.getstatic 63, 3) := by decide +kernel
theorem d53_56 : decode jdk_52_method_5_code 56 = .ok (.ishl, 1) := by decide +kernel
theorem d53_57 : decode jdk_52_method_5_code 57 = .ok (.ior, 1) := by decide +kernel
theorem d53_58 : decode jdk_52_method_5_code 58 = .ok (.i2c, 1) := by decide +kernel
theorem d53_59 : decode jdk_52_method_5_code 59 = .ok (.ireturn, 1) := by decide +kernel
theorem pn_53 : plainName "java/lang/StringUTF16" = true := by first | (simp [plainName, overriddenIn]; done) | decide +kernel
theorem ef_53 (m : MethodId) (da : Addr) (iv : Int32)  : entryFrame m #[(.ref da), (.int iv)] 2 = mkF m 0 #[.val (.ref da), .val (.int iv)] [] := by first | (simp [entryFrame, mkF, argsToLocals, Value.category]; done) | rfl
def Q53 (Z : State) (da : Addr) (iv : Int32) (kD : ClassId) (zv : Int32) (N : Nat) (g : Nat → Value) (iN lo hi_ : Nat) (h0 : Heap) (n0 : Nat) : Option Value → Heap → List Loc → Prop := fun v h L => v = some (.int (Int32.ofNat (lo + 256 * hi_))) ∧ Fr n0 L ∧ h = h0
set_option maxRecDepth 65536 in
set_option maxHeartbeats 40000000 in
theorem rm53 (l : Launch) (Z : State) (a0 : Array Value) (hw : ∀ d ∈ tables_1, d.before a0 Z = true) (ws : List Jvm.Cond) (da : Addr) (iv : Int32) (kD : ClassId) (zv : Int32) (N : Nat) (g : Nat → Value) (iN lo hi_ : Nat) (h0 : Heap) (n0 : Nat) (Z0 : n0 ≤ h0.size) (O0 : Old Z n0 h0) (SD : Sta Z Z.heap "java/lang/StringUTF16" "$assertionsDisabled" "Z" (.int (1 : Int32))) (SH : Sta Z Z.heap "java/lang/StringUTF16" "HI_BYTE_SHIFT" "I" (.int (0 : Int32))) (SL : Sta Z Z.heap "java/lang/StringUTF16" "LO_BYTE_SHIFT" "I" (.int (8 : Int32))) (V0 : Arv Z h0 da kD .byte zv (tab N g) (.int (0 : Int32))) (hz : zv = Int32.ofNat N) (hN : N < 2147483648) (hi : iv = Int32.ofNat iN) (hi5 : iN < 500) (hiN : 2 * iN + 1 < N) (hlo : g (2 * iN) = .int (sb lo)) (hhi : g (2 * iN + 1) = .int (sb hi_)) (hl1 : lo < 256) (hl2 : hi_ < 256) :
    MetFree l (⟨"java/lang/StringUTF16", "getChar", "([BI)C"⟩ : MethodName) (head1 (Jvm.Cond.code (⟨"java/lang/StringUTF16", "getChar", "([BI)C"⟩ : MethodName) jdk_52_method_5_code 2 (some .char) :: ws) ({ frames := 0, cells := 0, slots := 0, locals := 0 } : Room)) (fun a U => a = #[(.ref da), (.int iv)] ∧ Z.Warmed39 U.vm ∧ U.heap = h0) (fun _ _ _ _ _ => True) (fun _ U o U' => ∃ v L, o = .returned v ∧ (Q53 Z da iv kD zv N g iN lo hi_ h0 n0) v U'.heap L ∧ FrameEnd U o U' L ({ frames := 0, cells := 0, slots := 0, locals := 0 } : Room).cells ({ frames := 0, cells := 0, slots := 0, locals := 0 } : Room).slots) := by
  refine MetFree.of_bodySF (plainFor_of_name pn_53) hisR ?_
  intro p e s m args below meth c s₁ Bd hml0 hP hK
  obtain ⟨rfl, hZ, hh⟩ := hP
  have hx := Bd.exec
  have hby := Bd.bytes
  have hml : c.maxLocals = 2 := hml0
  have hown : s.vm.findClass "java/lang/StringUTF16" = some m.cls := findClass_of_methodNamed Bd.named
  have hnm := (name_of_methodNamed Bd.named Bd.method).1
  have X0 : Stand p l e ({ frames := 0, cells := 0, slots := 0, locals := 0 } : Room) s m #[(.ref da), (.int iv)] below meth c s₁ [] 0 0 := Stand.of_body Bd
  have e0 : s₁.heap = h0 := by rw [← hh, Bd.state]; rfl
  have N0 := Fr.nil n0
  show Own.Fin p e below _ (Own.Post s (Q53 Z da iv kD zv N g iN lo hi_ h0 n0) ({ frames := 0, cells := 0, slots := 0, locals := 0 } : Room).cells ({ frames := 0, cells := 0, slots := 0, locals := 0 } : Room).slots)
  refine Own.start (ef_53 m da iv) ?_
  show Own.Fin p e below (s₁.setTop (mkF m 0 #[.val (.ref da), .val (.int iv)] [])) _
  obtain ⟨T1, X1, e1, st1⟩ := getS2 X0 hx hZ hown (host := "") (Or.inl (hw _ (List.mem_of_getElem? (i := 265) rfl))) Via.refl e0 (SD.ext O0.2) (g := (mkF m 0 #[.val (.ref da), .val (.int iv)] [])) rfl (hb hby d53_0)
  refine Own.go st1 ?_
  show Own.Fin p e below (T1.setTop (mkF m 3 #[.val (.ref da), .val (.int iv)] [(.int (1 : Int32))])) _
  have hc3_1 : ¬ ((1 : Int32) = (0 : Int32)) := by decide
  refine Own.go (fun t k => XS.ifYes X1.here hx rfl (pc0 := 3) (pc' := 28) rfl (hb hby d53_3) rfl ((if0 _ _).trans (feq hc3_1).2) (by decide) (by decide) k) ?_
  show Own.Fin p e below (T1.setTop (mkF m 28 #[.val (.ref da), .val (.int iv)] [])) _
  refine Own.go (fun t k => XS.iloadN X1.here hx rfl (hb hby d53_28) rfl k) ?_
  show Own.Fin p e below (T1.setTop (mkF m 29 #[.val (.ref da), .val (.int iv)] [(.int iv)])) _
  refine Own.go (fun t k => XS.iconst X1.here hx rfl (hb hby d53_29) k) ?_
  show Own.Fin p e below (T1.setTop (mkF m 30 #[.val (.ref da), .val (.int iv)] [(.int (1 : Int32)), (.int iv)])) _
  refine Own.go (fun t k => XS.ishl X1.here hx rfl (hb hby d53_30) rfl k) ?_
  show Own.Fin p e below (T1.setTop (mkF m 31 #[.val (.ref da), .val (.int iv)] [(.int ((iv <<< ((1 : Int32) &&& 31))))])) _
  rw [show ((iv <<< ((1 : Int32) &&& 31))) = (Int32.ofNat (2 * iN)) from (by rw [hi]; exact own_shl iN (by omega))]
  show Own.Fin p e below (T1.setTop (mkF m 31 #[.val (.ref da), .val (.int iv)] [(.int (Int32.ofNat (2 * iN)))])) _
  refine Own.go (fun t k => XS.istoreN X1.here hx rfl (hb hby d53_31) rfl (l' := #[.val (.ref da), .val (.int (Int32.ofNat (2 * iN)))]) rfl k) ?_
  show Own.Fin p e below (T1.setTop (mkF m 32 #[.val (.ref da), .val (.int (Int32.ofNat (2 * iN)))] [])) _
  refine Own.go (fun t k => XS.aloadN X1.here hx rfl (hb hby d53_32) rfl rfl k) ?_
  show Own.Fin p e below (T1.setTop (mkF m 33 #[.val (.ref da), .val (.int (Int32.ofNat (2 * iN)))] [(.ref da)])) _
  refine Own.go (fun t k => XS.iloadN X1.here hx rfl (hb hby d53_33) rfl k) ?_
  show Own.Fin p e below (T1.setTop (mkF m 34 #[.val (.ref da), .val (.int (Int32.ofNat (2 * iN)))] [(.int (Int32.ofNat (2 * iN))), (.ref da)])) _
  refine Own.go (fun t k => XS.iinc X1.here hx rfl (hb hby d53_34) rfl (l' := #[.val (.ref da), .val (.int ((Int32.ofNat (2 * iN)) + (1 : Int32)))]) rfl k) ?_
  show Own.Fin p e below (T1.setTop (mkF m 37 #[.val (.ref da), .val (.int ((Int32.ofNat (2 * iN)) + (1 : Int32)))] [(.int (Int32.ofNat (2 * iN))), (.ref da)])) _
  rw [show ((Int32.ofNat (2 * iN)) + (1 : Int32)) = (Int32.ofNat (2 * iN + 1)) from (Int32.ofNat_add _ 1).symm]
  show Own.Fin p e below (T1.setTop (mkF m 37 #[.val (.ref da), .val (.int (Int32.ofNat (2 * iN + 1)))] [(.int (Int32.ofNat (2 * iN))), (.ref da)])) _
  refine ldBT (x := (sb lo)) X1 hx hZ e1 V0 (hb hby d53_37) hz hN (2 * iN) rfl (by omega) hlo ?_
  show Own.Fin p e below (T1.setTop (mkF m 38 #[.val (.ref da), .val (.int (Int32.ofNat (2 * iN + 1)))] [(.int (sb lo))])) _
  refine Own.go (fun t k => XS.sipush X1.here hx rfl (hb hby d53_38) k) ?_
  show Own.Fin p e below (T1.setTop (mkF m 41 #[.val (.ref da), .val (.int (Int32.ofNat (2 * iN + 1)))] [(.int (255 : Int32)), (.int (sb lo))])) _
  refine Own.go (fun t k => XS.iand X1.here hx rfl (hb hby d53_41) rfl k) ?_
  show Own.Fin p e below (T1.setTop (mkF m 42 #[.val (.ref da), .val (.int (Int32.ofNat (2 * iN + 1)))] [(.int ((sb lo) &&& (255 : Int32)))])) _
  obtain ⟨T3, X3, e3, st3⟩ := getS2 X1 hx hZ hown (host := "") (Or.inl (hw _ (List.mem_of_getElem? (i := 266) rfl))) Via.refl e1 (SH.ext O0.2) (g := (mkF m 42 #[.val (.ref da), .val (.int (Int32.ofNat (2 * iN + 1)))] [(.int ((sb lo) &&& (255 : Int32)))])) rfl (hb hby d53_42)
  refine Own.go st3 ?_
  show Own.Fin p e below (T3.setTop (mkF m 45 #[.val (.ref da), .val (.int (Int32.ofNat (2 * iN + 1)))] [(.int (0 : Int32)), (.int ((sb lo) &&& (255 : Int32)))])) _
  refine Own.go (fun t k => XS.ishl X3.here hx rfl (hb hby d53_45) rfl k) ?_
  show Own.Fin p e below (T3.setTop (mkF m 46 #[.val (.ref da), .val (.int (Int32.ofNat (2 * iN + 1)))] [(.int ((((sb lo) &&& (255 : Int32)) <<< ((0 : Int32) &&& 31))))])) _
  refine Own.go (fun t k => XS.aloadN X3.here hx rfl (hb hby d53_46) rfl rfl k) ?_
  show Own.Fin p e below (T3.setTop (mkF m 47 #[.val (.ref da), .val (.int (Int32.ofNat (2 * iN + 1)))] [(.ref da), (.int ((((sb lo) &&& (255 : Int32)) <<< ((0 : Int32) &&& 31))))])) _
  refine Own.go (fun t k => XS.iloadN X3.here hx rfl (hb hby d53_47) rfl k) ?_
  show Own.Fin p e below (T3.setTop (mkF m 48 #[.val (.ref da), .val (.int (Int32.ofNat (2 * iN + 1)))] [(.int (Int32.ofNat (2 * iN + 1))), (.ref da), (.int ((((sb lo) &&& (255 : Int32)) <<< ((0 : Int32) &&& 31))))])) _
  refine ldBT (x := (sb hi_)) X3 hx hZ e3 V0 (hb hby d53_48) hz hN (2 * iN + 1) rfl (by omega) hhi ?_
  show Own.Fin p e below (T3.setTop (mkF m 49 #[.val (.ref da), .val (.int (Int32.ofNat (2 * iN + 1)))] [(.int (sb hi_)), (.int ((((sb lo) &&& (255 : Int32)) <<< ((0 : Int32) &&& 31))))])) _
  refine Own.go (fun t k => XS.sipush X3.here hx rfl (hb hby d53_49) k) ?_
  show Own.Fin p e below (T3.setTop (mkF m 52 #[.val (.ref da), .val (.int (Int32.ofNat (2 * iN + 1)))] [(.int (255 : Int32)), (.int (sb hi_)), (.int ((((sb lo) &&& (255 : Int32)) <<< ((0 : Int32) &&& 31))))])) _
  refine Own.go (fun t k => XS.iand X3.here hx rfl (hb hby d53_52) rfl k) ?_
  show Own.Fin p e below (T3.setTop (mkF m 53 #[.val (.ref da), .val (.int (Int32.ofNat (2 * iN + 1)))] [(.int ((sb hi_) &&& (255 : Int32))), (.int ((((sb lo) &&& (255 : Int32)) <<< ((0 : Int32) &&& 31))))])) _
  obtain ⟨T4, X4, e4, st4⟩ := getS2 X3 hx hZ hown (host := "") (Or.inl (hw _ (List.mem_of_getElem? (i := 267) rfl))) Via.refl e3 (SL.ext O0.2) (g := (mkF m 53 #[.val (.ref da), .val (.int (Int32.ofNat (2 * iN + 1)))] [(.int ((sb hi_) &&& (255 : Int32))), (.int ((((sb lo) &&& (255 : Int32)) <<< ((0 : Int32) &&& 31))))])) rfl (hb hby d53_53)
  refine Own.go st4 ?_
  show Own.Fin p e below (T4.setTop (mkF m 56 #[.val (.ref da), .val (.int (Int32.ofNat (2 * iN + 1)))] [(.int (8 : Int32)), (.int ((sb hi_) &&& (255 : Int32))), (.int ((((sb lo) &&& (255 : Int32)) <<< ((0 : Int32) &&& 31))))])) _
  refine Own.go (fun t k => XS.ishl X4.here hx rfl (hb hby d53_56) rfl k) ?_
  show Own.Fin p e below (T4.setTop (mkF m 57 #[.val (.ref da), .val (.int (Int32.ofNat (2 * iN + 1)))] [(.int ((((sb hi_) &&& (255 : Int32)) <<< ((8 : Int32) &&& 31)))), (.int ((((sb lo) &&& (255 : Int32)) <<< ((0 : Int32) &&& 31))))])) _
  refine Own.go (fun t k => XS.ior X4.here hx rfl (hb hby d53_57) rfl k) ?_
  show Own.Fin p e below (T4.setTop (mkF m 58 #[.val (.ref da), .val (.int (Int32.ofNat (2 * iN + 1)))] [(.int (((((sb lo) &&& (255 : Int32)) <<< ((0 : Int32) &&& 31))) ||| ((((sb hi_) &&& (255 : Int32)) <<< ((8 : Int32) &&& 31)))))])) _
  refine Own.go (fun t k => XS.i2c X4.here hx rfl (hb hby d53_58) rfl k) ?_
  show Own.Fin p e below (T4.setTop (mkF m 59 #[.val (.ref da), .val (.int (Int32.ofNat (2 * iN + 1)))] [(.int (((((((sb lo) &&& (255 : Int32)) <<< ((0 : Int32) &&& 31))) ||| ((((sb hi_) &&& (255 : Int32)) <<< ((8 : Int32) &&& 31))))).toUInt32.toUInt16.toUInt32.toInt32))])) _
  refine Own.retN X4 hx Bd.notSynchronized (t := .char) Bd.returns (by simp) (hb hby d53_59) (by decide) (by decide) ?_
  exact ⟨congrArg (fun z => some (Value.int z)) (own_gc lo hi_ hl1 hl2), N0, e4⟩
def U16of (g : Nat → Value) (ch : Nat → Nat) (n : Nat) : Prop := ∀ i < n, g (2 * i) = .int (sb (ch i % 256)) ∧ g (2 * i + 1) = .int (sb (ch i / 256))
theorem u16_step {g g' : Nat → Value} {ch : Nat → Nat} {j : Nat} (h : U16of g ch j) (hp : PutC g g' j (ch j)) : U16of g' ch (j + 1) := fun i hi => by
  by_cases q : i = j
  · subst q; exact hp.2
  · rw [hp.1 _ (by omega) (by omega), hp.1 _ (by omega) (by omega)]; exact h i (by omega)
theorem own_or3 (a b c : Nat) (ha : a < 1000) (hb : b < 1000) (hc : c < 1000) : ¬ ((Int32.ofNat a ||| Int32.ofNat b) ||| Int32.ofNat c) < (0 : Int32) := by
  have h1 := c_orS (Int32.ofNat a) (Int32.ofNat b)
  have h2 := c_orS (Int32.ofNat a ||| Int32.ofNat b) (Int32.ofNat c)
  rw [Int32.toInt_ofNat_small (by omega)] at h1 h2
  rw [Int32.toInt_ofNat_small (by omega)] at h1
  rw [Int32.lt_iff_toInt_lt, show (0 : Int32).toInt = 0 by decide]
  have := h2.1 (h1.1 (by omega) (by omega)) (by omega)
  omega
theorem d41_0 : decode jdk_52_method_86_code 0 = .ok (.iload_n 3, 1) := by decide +kernel
theorem d41_1 : decode jdk_52_method_86_code 1 = .ok (.iload 4, 2) := by decide +kernel
theorem d41_3 : decode jdk_52_method_86_code 3 = .ok (.aload_n 2, 1) := by decide +kernel
theorem d41_4 : decode jdk_52_method_86_code 4 = .ok (.invokestatic 173, 3) := by decide +kernel
theorem d41_7 : decode jdk_52_method_86_code 7 = .ok (.iconst 0, 1) := by decide +kernel
theorem d41_8 : decode jdk_52_method_86_code 8 = .ok (.istore 5, 2) := by decide +kernel
theorem d41_10 : decode jdk_52_method_86_code 10 = .ok (.iload 5, 2) := by decide +kernel
theorem d41_12 : decode jdk_52_method_86_code 12 = .ok (.iload 4, 2) := by decide +kernel
theorem d41_14 : decode jdk_52_method_86_code 14 = .ok (.if_icmp .ge 27, 3) := by decide +kernel
theorem d41_17 : decode jdk_52_method_86_code 17 = .ok (.aload_n 2, 1) := by decide +kernel
theorem d41_18 : decode jdk_52_method_86_code 18 = .ok (.iload_n 3, 1) := by decide +kernel
theorem d41_19 : decode jdk_52_method_86_code 19 = .ok (.iinc 3 1, 3) := by decide +kernel
theorem d41_22 : decode jdk_52_method_86_code 22 = .ok (.aload_n 0, 1) := by decide +kernel
theorem d41_23 : decode jdk_52_method_86_code 23 = .ok (.iload_n 1, 1) := by decide +kernel
theorem d41_24 : decode jdk_52_method_86_code 24 = .ok (.iinc 1 1, 3) := by decide +kernel
theorem d41_27 : decode jdk_52_method_86_code 27 = .ok (.baload, 1) := by decide +kernel
theorem d41_28 : decode jdk_52_method_86_code 28 = .ok (.sipush 255, 3) := by decide +kernel
theorem d41_31 : decode jdk_52_method_86_code 31 = .ok (.iand, 1) := by decide +kernel
theorem d41_32 : decode jdk_52_method_86_code 32 = .ok (.invokestatic 111, 3) := by decide +kernel
theorem d41_35 : decode jdk_52_method_86_code 35 = .ok (.iinc 5 1, 3) := by decide +kernel
theorem d41_38 : decode jdk_52_method_86_code 38 = .ok (.goto (-28), 3) := by decide +kernel
theorem d41_41 : decode jdk_52_method_86_code 41 = .ok (.return_, 1) := by decide +kernel
theorem pd_7 : parseMethodDescriptor "(II[B)V" = some ⟨[.int, .int, (.array .byte)], none⟩ := by decide +kernel
theorem pd_8 : parseMethodDescriptor "([BII)V" = some ⟨[(.array .byte), .int, .int], none⟩ := by decide +kernel
theorem pn_41 : plainName "java/lang/StringUTF16" = true := by first | (simp [plainName, overriddenIn]; done) | decide +kernel
theorem ef_41 (m : MethodId) (ra : Addr) (p2 : Int32) (rb : Addr) (p4 : Int32) (p5 : Int32)  : entryFrame m #[(.ref ra), (.int p2), (.ref rb), (.int p4), (.int p5)] 6 = mkF m 0 #[.val (.ref ra), .val (.int p2), .val (.ref rb), .val (.int p4), .val (.int p5), .unset] [] := by first | (simp [entryFrame, mkF, argsToLocals, Value.category]; done) | rfl
def Q41 (Z : State) (ra : Addr) (p2 : Int32) (rb : Addr) (p4 : Int32) (p5 : Int32) (fs_ : Value) (kA kB : ClassId) (gA gB : Nat → Value) (n : Nat) (ch : Nat → Nat) (h0 : Heap) (n0 : Nat) : Option Value → Heap → List Loc → Prop := fun v h L => ∃ g', v = none ∧ Fr n0 L ∧ Keep h0 h [rb] ∧ Arv Z h rb kB .byte (32 : Int32) (tab 32 g') (.int (0 : Int32)) ∧ U16of g' ch n
set_option maxRecDepth 65536 in
set_option maxHeartbeats 40000000 in
theorem rm41 (l : Launch) (Z : State) (a0 : Array Value) (hw : ∀ d ∈ tables_1, d.before a0 Z = true) (ws : List Jvm.Cond) (ra : Addr) (p2 : Int32) (rb : Addr) (p4 : Int32) (p5 : Int32) (fs_ : Value) (kA kB : ClassId) (gA gB : Nat → Value) (n : Nat) (ch : Nat → Nat) (h0 : Heap) (n0 : Nat) (Z0 : n0 ≤ h0.size) (O0 : Old Z n0 h0) (SD : Sta Z Z.heap "java/lang/StringUTF16" "$assertionsDisabled" "Z" (.int (1 : Int32))) (SH : Sta Z Z.heap "java/lang/StringUTF16" "HI_BYTE_SHIFT" "I" (.int (0 : Int32))) (SL : Sta Z Z.heap "java/lang/StringUTF16" "LO_BYTE_SHIFT" "I" (.int (8 : Int32))) (SF : Sta Z Z.heap "jdk/internal/util/Preconditions" "SIOOBE_FORMATTER" "Ljava/util/function/BiFunction;" fs_) (hc_s : fs_.category = 1) (VA : Arv Z h0 ra kA .byte (16 : Int32) (tab 16 gA) (.int (0 : Int32))) (VB : Arv Z h0 rb kB .byte (32 : Int32) (tab 32 gB) (.int (0 : Int32))) (hne : ra ≠ rb) (gb_ : n0 ≤ rb) (hp2 : p2 = (0 : Int32)) (hp4 : p4 = (0 : Int32)) (hp5 : p5 = Int32.ofNat n) (hn : n ≤ 16) (hA : ∀ i < n, gA i = .int (sb (ch i)) ∧ ch i < 256) :
    MetFree l (⟨"java/lang/StringUTF16", "inflate", "([BI[BII)V"⟩ : MethodName) (head1 (Jvm.Cond.code (⟨"java/lang/StringUTF16", "inflate", "([BI[BII)V"⟩ : MethodName) jdk_52_method_86_code 6 none :: ws) ({ frames := 3, cells := 0, slots := 0, locals := 90 } : Room)) (fun a U => a = #[(.ref ra), (.int p2), (.ref rb), (.int p4), (.int p5)] ∧ Z.Warmed39 U.vm ∧ U.heap = h0) (fun _ _ _ _ _ => True) (fun _ U o U' => ∃ v L, o = .returned v ∧ (Q41 Z ra p2 rb p4 p5 fs_ kA kB gA gB n ch h0 n0) v U'.heap L ∧ FrameEnd U o U' L ({ frames := 3, cells := 0, slots := 0, locals := 90 } : Room).cells ({ frames := 3, cells := 0, slots := 0, locals := 90 } : Room).slots) := by
  refine MetFree.of_bodySF (plainFor_of_name pn_41) hisR ?_
  intro p e s m args below meth c s₁ Bd hml0 hP hK
  obtain ⟨rfl, hZ, hh⟩ := hP
  have hx := Bd.exec
  have hby := Bd.bytes
  have hml : c.maxLocals = 6 := hml0
  have hown : s.vm.findClass "java/lang/StringUTF16" = some m.cls := findClass_of_methodNamed Bd.named
  have hnm := (name_of_methodNamed Bd.named Bd.method).1
  have X0 : Stand p l e ({ frames := 3, cells := 0, slots := 0, locals := 90 } : Room) s m #[(.ref ra), (.int p2), (.ref rb), (.int p4), (.int p5)] below meth c s₁ [] 0 0 := Stand.of_body Bd
  have e0 : s₁.heap = h0 := by rw [← hh, Bd.state]; rfl
  have N0 := Fr.nil n0
  show Own.Fin p e below _ (Own.Post s (Q41 Z ra p2 rb p4 p5 fs_ kA kB gA gB n ch h0 n0) ({ frames := 3, cells := 0, slots := 0, locals := 90 } : Room).cells ({ frames := 3, cells := 0, slots := 0, locals := 90 } : Room).slots)
  refine Own.start (ef_41 m ra p2 rb p4 p5) ?_
  show Own.Fin p e below (s₁.setTop (mkF m 0 #[.val (.ref ra), .val (.int p2), .val (.ref rb), .val (.int p4), .val (.int p5), .unset] [])) _
  refine Own.go (fun t k => XS.iloadN X0.here hx rfl (hb hby d41_0) rfl k) ?_
  show Own.Fin p e below (s₁.setTop (mkF m 1 #[.val (.ref ra), .val (.int p2), .val (.ref rb), .val (.int p4), .val (.int p5), .unset] [(.int p4)])) _
  refine Own.go (fun t k => XS.iload X0.here hx rfl (hb hby d41_1) rfl k) ?_
  show Own.Fin p e below (s₁.setTop (mkF m 3 #[.val (.ref ra), .val (.int p2), .val (.ref rb), .val (.int p4), .val (.int p5), .unset] [(.int p5), (.int p4)])) _
  refine Own.go (fun t k => XS.aloadN X0.here hx rfl (hb hby d41_3) rfl rfl k) ?_
  show Own.Fin p e below (s₁.setTop (mkF m 4 #[.val (.ref ra), .val (.int p2), .val (.ref rb), .val (.int p4), .val (.int p5), .unset] [(.ref rb), (.int p5), (.int p4)])) _
  refine Own.cS X0 hx hZ hown (hw _ (List.mem_of_getElem? (i := 237) rfl)) (hw _ (List.mem_of_getElem? (i := 238) rfl)) (hw _ (List.mem_of_getElem? (i := 225) rfl)) (hw _ (List.mem_of_getElem? (i := 239) rfl)) (by decide) (rm42 l Z a0 hw [] p4 p5 rb fs_ kB (32 : Int32) 32 gB h0 n0 Z0 O0 SF hc_s VB (by rw [hp4, hp5]; exact own_or3 16 0 n (by decide) (by decide) (by omega)) (by rw [hp4, hp5]; exact fun q => absurd ((i_lt 16 n (by decide) (by omega)).mp q) (by omega))) (by decide) (W := 0) (by decide) (argsL := [(.int p4), (.int p5), (.ref rb)]) (rest := []) (by rw [hml]; rfl) (lenOf pd_7 rfl) rfl (Nat.le_of_eq rfl) (hb hby d41_4) e0 (by decide) (by decide) ?_
  intro T1 L1 v1 X1 hQ1
  obtain ⟨rfl, N1q, e1⟩ := hQ1
  have N1 := Fr.app N0 N1q
  show Own.Fin p e below (T1.setTop (mkF m 7 #[.val (.ref ra), .val (.int p2), .val (.ref rb), .val (.int p4), .val (.int p5), .unset] [])) _
  refine Own.go (fun t k => XS.iconst X1.here hx rfl (hb hby d41_7) k) ?_
  show Own.Fin p e below (T1.setTop (mkF m 8 #[.val (.ref ra), .val (.int p2), .val (.ref rb), .val (.int p4), .val (.int p5), .unset] [(.int (0 : Int32))])) _
  refine Own.go (fun t k => XS.istore X1.here hx rfl (hb hby d41_8) rfl (l' := #[.val (.ref ra), .val (.int p2), .val (.ref rb), .val (.int p4), .val (.int p5), .val (.int (0 : Int32))]) rfl k) ?_
  show Own.Fin p e below (T1.setTop (mkF m 10 #[.val (.ref ra), .val (.int p2), .val (.ref rb), .val (.int p4), .val (.int p5), .val (.int (0 : Int32))] [])) _
  rw [hp2, hp4, hp5]
  show Own.Fin p e below (T1.setTop (mkF m 10 #[.val (.ref ra), .val (.int (0 : Int32)), .val (.ref rb), .val (.int (0 : Int32)), .val (.int (Int32.ofNat n)), .val (.int (0 : Int32))] [])) _
  have loop1 : ∀ (dd j : Nat) (hjd : j + dd = n) (Tj : State) (hj : Heap) (Lj : List Loc) (g : Nat → Value) (Xj : Stand p l e ({ frames := 3, cells := 0, slots := 0, locals := 90 } : Room) s m #[(.ref ra), (.int p2), (.ref rb), (.int p4), (.int p5)] below meth c Tj Lj 0 0) (ej : Tj.heap = hj) (Nj : Fr n0 Lj) (Zj : n0 ≤ hj.size) (Oj : Old Z n0 hj) (Kj : Keep h0 hj [rb]) (Vj0 : Arv Z hj ra kA .byte (16 : Int32) (tab 16 gA) (.int (0 : Int32))) (Vj1 : Arv Z hj rb kB .byte (32 : Int32) (tab 32 g) (.int (0 : Int32))) (hu : U16of g ch j), Own.Fin p e below (Tj.setTop (mkF m 10 #[.val (.ref ra), .val (.int (Int32.ofNat j)), .val (.ref rb), .val (.int (Int32.ofNat j)), .val (.int (Int32.ofNat n)), .val (.int (Int32.ofNat j))] [])) (Own.Post s (Q41 Z ra p2 rb p4 p5 fs_ kA kB gA gB n ch h0 n0) ({ frames := 3, cells := 0, slots := 0, locals := 90 } : Room).cells ({ frames := 3, cells := 0, slots := 0, locals := 90 } : Room).slots) := by
    intro dd
    induction dd with
    | zero =>
      intro j hjd Tj hj Lj g Xj ej Nj Zj Oj Kj Vj0 Vj1 hu
      have hjd' : j = n := by omega
      rw [hjd'] at hu ⊢
      show Own.Fin p e below (Tj.setTop (mkF m 10 #[.val (.ref ra), .val (.int (Int32.ofNat n)), .val (.ref rb), .val (.int (Int32.ofNat n)), .val (.int (Int32.ofNat n)), .val (.int (Int32.ofNat n))] [])) _
      refine Own.go (fun t k => XS.iload Xj.here hx rfl (hb hby d41_10) rfl k) ?_
      show Own.Fin p e below (Tj.setTop (mkF m 12 #[.val (.ref ra), .val (.int (Int32.ofNat n)), .val (.ref rb), .val (.int (Int32.ofNat n)), .val (.int (Int32.ofNat n)), .val (.int (Int32.ofNat n))] [(.int (Int32.ofNat n))])) _
      refine Own.go (fun t k => XS.iload Xj.here hx rfl (hb hby d41_12) rfl k) ?_
      show Own.Fin p e below (Tj.setTop (mkF m 14 #[.val (.ref ra), .val (.int (Int32.ofNat n)), .val (.ref rb), .val (.int (Int32.ofNat n)), .val (.int (Int32.ofNat n)), .val (.int (Int32.ofNat n))] [(.int (Int32.ofNat n)), (.int (Int32.ofNat n))])) _
      have hc14_1 : ¬ ((Int32.ofNat n) < (Int32.ofNat n)) := fun h => Nat.lt_irrefl _ ((i_lt n n (by omega) (by omega)).mp h)
      refine Own.go (fun t k => XS.icmpYes Xj.here hx rfl (pc0 := 14) (pc' := 41) rfl (hb hby d41_14) rfl (flt hc14_1).2.1 (by decide) (by decide) k) ?_
      show Own.Fin p e below (Tj.setTop (mkF m 41 #[.val (.ref ra), .val (.int (Int32.ofNat n)), .val (.ref rb), .val (.int (Int32.ofNat n)), .val (.int (Int32.ofNat n)), .val (.int (Int32.ofNat n))] [])) _
      refine Own.retV Xj hx Bd.notSynchronized Bd.returns (hb hby d41_41) (by decide) (by decide) ?_
      exact ⟨g, rfl, Nj, by rw [ej]; exact Kj, by rw [ej]; exact Vj1, hu⟩
    | succ dd ih =>
      intro j hjd Tj hj Lj g Xj ej Nj Zj Oj Kj Vj0 Vj1 hu
      show Own.Fin p e below (Tj.setTop (mkF m 10 #[.val (.ref ra), .val (.int (Int32.ofNat j)), .val (.ref rb), .val (.int (Int32.ofNat j)), .val (.int (Int32.ofNat n)), .val (.int (Int32.ofNat j))] [])) _
      refine Own.go (fun t k => XS.iload Xj.here hx rfl (hb hby d41_10) rfl k) ?_
      show Own.Fin p e below (Tj.setTop (mkF m 12 #[.val (.ref ra), .val (.int (Int32.ofNat j)), .val (.ref rb), .val (.int (Int32.ofNat j)), .val (.int (Int32.ofNat n)), .val (.int (Int32.ofNat j))] [(.int (Int32.ofNat j))])) _
      refine Own.go (fun t k => XS.iload Xj.here hx rfl (hb hby d41_12) rfl k) ?_
      show Own.Fin p e below (Tj.setTop (mkF m 14 #[.val (.ref ra), .val (.int (Int32.ofNat j)), .val (.ref rb), .val (.int (Int32.ofNat j)), .val (.int (Int32.ofNat n)), .val (.int (Int32.ofNat j))] [(.int (Int32.ofNat n)), (.int (Int32.ofNat j))])) _
      have hc14_2 : (Int32.ofNat j) < (Int32.ofNat n) := (i_lt j n (by omega) (by omega)).mpr (by omega)
      refine Own.go (fun t k => XS.icmpNo Xj.here hx rfl (hb hby d41_14) rfl (tlt hc14_2).2.1 k) ?_
      show Own.Fin p e below (Tj.setTop (mkF m 17 #[.val (.ref ra), .val (.int (Int32.ofNat j)), .val (.ref rb), .val (.int (Int32.ofNat j)), .val (.int (Int32.ofNat n)), .val (.int (Int32.ofNat j))] [])) _
      refine Own.go (fun t k => XS.aloadN Xj.here hx rfl (hb hby d41_17) rfl rfl k) ?_
      show Own.Fin p e below (Tj.setTop (mkF m 18 #[.val (.ref ra), .val (.int (Int32.ofNat j)), .val (.ref rb), .val (.int (Int32.ofNat j)), .val (.int (Int32.ofNat n)), .val (.int (Int32.ofNat j))] [(.ref rb)])) _
      refine Own.go (fun t k => XS.iloadN Xj.here hx rfl (hb hby d41_18) rfl k) ?_
      show Own.Fin p e below (Tj.setTop (mkF m 19 #[.val (.ref ra), .val (.int (Int32.ofNat j)), .val (.ref rb), .val (.int (Int32.ofNat j)), .val (.int (Int32.ofNat n)), .val (.int (Int32.ofNat j))] [(.int (Int32.ofNat j)), (.ref rb)])) _
      refine Own.go (fun t k => XS.iinc Xj.here hx rfl (hb hby d41_19) rfl (l' := #[.val (.ref ra), .val (.int (Int32.ofNat j)), .val (.ref rb), .val (.int ((Int32.ofNat j) + (1 : Int32))), .val (.int (Int32.ofNat n)), .val (.int (Int32.ofNat j))]) rfl k) ?_
      show Own.Fin p e below (Tj.setTop (mkF m 22 #[.val (.ref ra), .val (.int (Int32.ofNat j)), .val (.ref rb), .val (.int ((Int32.ofNat j) + (1 : Int32))), .val (.int (Int32.ofNat n)), .val (.int (Int32.ofNat j))] [(.int (Int32.ofNat j)), (.ref rb)])) _
      rw [show (((Int32.ofNat j) + (1 : Int32)) : Int32) = (Int32.ofNat (j + 1)) from (Int32.ofNat_add j 1).symm]
      show Own.Fin p e below (Tj.setTop (mkF m 22 #[.val (.ref ra), .val (.int (Int32.ofNat j)), .val (.ref rb), .val (.int (Int32.ofNat (j + 1))), .val (.int (Int32.ofNat n)), .val (.int (Int32.ofNat j))] [(.int (Int32.ofNat j)), (.ref rb)])) _
      refine Own.go (fun t k => XS.aloadN Xj.here hx rfl (hb hby d41_22) rfl rfl k) ?_
      show Own.Fin p e below (Tj.setTop (mkF m 23 #[.val (.ref ra), .val (.int (Int32.ofNat j)), .val (.ref rb), .val (.int (Int32.ofNat (j + 1))), .val (.int (Int32.ofNat n)), .val (.int (Int32.ofNat j))] [(.ref ra), (.int (Int32.ofNat j)), (.ref rb)])) _
      refine Own.go (fun t k => XS.iloadN Xj.here hx rfl (hb hby d41_23) rfl k) ?_
      show Own.Fin p e below (Tj.setTop (mkF m 24 #[.val (.ref ra), .val (.int (Int32.ofNat j)), .val (.ref rb), .val (.int (Int32.ofNat (j + 1))), .val (.int (Int32.ofNat n)), .val (.int (Int32.ofNat j))] [(.int (Int32.ofNat j)), (.ref ra), (.int (Int32.ofNat j)), (.ref rb)])) _
      refine Own.go (fun t k => XS.iinc Xj.here hx rfl (hb hby d41_24) rfl (l' := #[.val (.ref ra), .val (.int ((Int32.ofNat j) + (1 : Int32))), .val (.ref rb), .val (.int (Int32.ofNat (j + 1))), .val (.int (Int32.ofNat n)), .val (.int (Int32.ofNat j))]) rfl k) ?_
      show Own.Fin p e below (Tj.setTop (mkF m 27 #[.val (.ref ra), .val (.int ((Int32.ofNat j) + (1 : Int32))), .val (.ref rb), .val (.int (Int32.ofNat (j + 1))), .val (.int (Int32.ofNat n)), .val (.int (Int32.ofNat j))] [(.int (Int32.ofNat j)), (.ref ra), (.int (Int32.ofNat j)), (.ref rb)])) _
      rw [show (((Int32.ofNat j) + (1 : Int32)) : Int32) = (Int32.ofNat (j + 1)) from (Int32.ofNat_add j 1).symm]
      show Own.Fin p e below (Tj.setTop (mkF m 27 #[.val (.ref ra), .val (.int (Int32.ofNat (j + 1))), .val (.ref rb), .val (.int (Int32.ofNat (j + 1))), .val (.int (Int32.ofNat n)), .val (.int (Int32.ofNat j))] [(.int (Int32.ofNat j)), (.ref ra), (.int (Int32.ofNat j)), (.ref rb)])) _
      refine ldBT (x := (sb (ch j))) Xj hx hZ ej Vj0 (hb hby d41_27) rfl (by decide) j rfl (by omega) (hA j (by omega)).1 ?_
      show Own.Fin p e below (Tj.setTop (mkF m 28 #[.val (.ref ra), .val (.int (Int32.ofNat (j + 1))), .val (.ref rb), .val (.int (Int32.ofNat (j + 1))), .val (.int (Int32.ofNat n)), .val (.int (Int32.ofNat j))] [(.int (sb (ch j))), (.int (Int32.ofNat j)), (.ref rb)])) _
      refine Own.go (fun t k => XS.sipush Xj.here hx rfl (hb hby d41_28) k) ?_
      show Own.Fin p e below (Tj.setTop (mkF m 31 #[.val (.ref ra), .val (.int (Int32.ofNat (j + 1))), .val (.ref rb), .val (.int (Int32.ofNat (j + 1))), .val (.int (Int32.ofNat n)), .val (.int (Int32.ofNat j))] [(.int (255 : Int32)), (.int (sb (ch j))), (.int (Int32.ofNat j)), (.ref rb)])) _
      refine Own.go (fun t k => XS.iand Xj.here hx rfl (hb hby d41_31) rfl k) ?_
      show Own.Fin p e below (Tj.setTop (mkF m 32 #[.val (.ref ra), .val (.int (Int32.ofNat (j + 1))), .val (.ref rb), .val (.int (Int32.ofNat (j + 1))), .val (.int (Int32.ofNat n)), .val (.int (Int32.ofNat j))] [(.int ((sb (ch j)) &&& (255 : Int32))), (.int (Int32.ofNat j)), (.ref rb)])) _
      rw [show ((sb (ch j)) &&& (255 : Int32)) = (Int32.ofNat (ch j)) from (own_m (ch j) (hA j (by omega)).2)]
      show Own.Fin p e below (Tj.setTop (mkF m 32 #[.val (.ref ra), .val (.int (Int32.ofNat (j + 1))), .val (.ref rb), .val (.int (Int32.ofNat (j + 1))), .val (.int (Int32.ofNat n)), .val (.int (Int32.ofNat j))] [(.int (Int32.ofNat (ch j))), (.int (Int32.ofNat j)), (.ref rb)])) _
      refine Own.cS Xj hx hZ hown (hw _ (List.mem_of_getElem? (i := 262) rfl)) (hw _ (List.mem_of_getElem? (i := 263) rfl)) (hw _ (List.mem_of_getElem? (i := 225) rfl)) (hw _ (List.mem_of_getElem? (i := 264) rfl)) (by decide) (rm50 l Z a0 hw [] rb (Int32.ofNat j) (Int32.ofNat (ch j)) kB (32 : Int32) 32 g j (ch j) hj n0 Zj Oj SD SH SL Vj1 gb_ rfl (by decide) rfl (by omega) (by omega) rfl (Nat.lt_trans (hA j (by omega)).2 (by decide))) (by decide) (W := 0) (by decide) (argsL := [(.ref rb), (.int (Int32.ofNat j)), (.int (Int32.ofNat (ch j)))]) (rest := []) (by rw [hml]; rfl) (lenOf pd_8 rfl) rfl (Nat.le_of_eq rfl) (hb hby d41_32) ej (by decide) (by decide) ?_
      intro T4 L4 v4 X4 hQ4
      obtain ⟨g4, rfl, N4q, K4q, V4, PC4⟩ := hQ4
      have N4 := Fr.app Nj N4q
      have f5 := Vj0.keep K4q (ninS hne nin0)
      have Z4 : n0 ≤ T4.heap.size := Nat.le_trans Zj K4q.1
      have KK4 := Kj.trans K4q (allS (Or.inl (List.mem_cons_self ..)) all0)
      have O4 := Oj.keep K4q (allS gb_ all0)
      show Own.Fin p e below (T4.setTop (mkF m 35 #[.val (.ref ra), .val (.int (Int32.ofNat (j + 1))), .val (.ref rb), .val (.int (Int32.ofNat (j + 1))), .val (.int (Int32.ofNat n)), .val (.int (Int32.ofNat j))] [])) _
      refine Own.go (fun t k => XS.iinc X4.here hx rfl (hb hby d41_35) rfl (l' := #[.val (.ref ra), .val (.int (Int32.ofNat (j + 1))), .val (.ref rb), .val (.int (Int32.ofNat (j + 1))), .val (.int (Int32.ofNat n)), .val (.int ((Int32.ofNat j) + (1 : Int32)))]) rfl k) ?_
      show Own.Fin p e below (T4.setTop (mkF m 38 #[.val (.ref ra), .val (.int (Int32.ofNat (j + 1))), .val (.ref rb), .val (.int (Int32.ofNat (j + 1))), .val (.int (Int32.ofNat n)), .val (.int ((Int32.ofNat j) + (1 : Int32)))] [])) _
      rw [show (((Int32.ofNat j) + (1 : Int32)) : Int32) = (Int32.ofNat (j + 1)) from (Int32.ofNat_add j 1).symm]
      show Own.Fin p e below (T4.setTop (mkF m 38 #[.val (.ref ra), .val (.int (Int32.ofNat (j + 1))), .val (.ref rb), .val (.int (Int32.ofNat (j + 1))), .val (.int (Int32.ofNat n)), .val (.int (Int32.ofNat (j + 1)))] [])) _
      refine Own.go (fun t k => XS.goto X4.here hx rfl (pc0 := 38) (pc' := 10) rfl (hb hby d41_38) (by decide) (by decide) k) ?_
      show Own.Fin p e below (T4.setTop (mkF m 10 #[.val (.ref ra), .val (.int (Int32.ofNat (j + 1))), .val (.ref rb), .val (.int (Int32.ofNat (j + 1))), .val (.int (Int32.ofNat n)), .val (.int (Int32.ofNat (j + 1)))] [])) _
      exact ih (j + 1) (by omega) _ _ _ _ X4 rfl N4 Z4 O4 KK4 f5 V4 (u16_step hu PC4)
  show Own.Fin p e below (T1.setTop (mkF m 10 #[.val (.ref ra), .val (.int (Int32.ofNat 0)), .val (.ref rb), .val (.int (Int32.ofNat 0)), .val (.int (Int32.ofNat n)), .val (.int (Int32.ofNat 0))] [])) _
  exact loop1 n 0 (by omega) _ _ _ _ X1 e1 N1 Z0 O0 (Keep.refl h0 [rb]) VA VB (fun i hi => absurd hi (Nat.not_lt_zero i))
theorem d40_0 : decode jdk_43_method_50_code 0 = .ok (.aload_n 0, 1) := by decide +kernel
theorem d40_1 : decode jdk_43_method_50_code 1 = .ok (.iload_n 1, 1) := by decide +kernel
theorem d40_2 : decode jdk_43_method_50_code 2 = .ok (.aload_n 2, 1) := by decide +kernel
theorem d40_3 : decode jdk_43_method_50_code 3 = .ok (.iload_n 3, 1) := by decide +kernel
theorem d40_4 : decode jdk_43_method_50_code 4 = .ok (.iload 4, 2) := by decide +kernel
theorem d40_6 : decode jdk_43_method_50_code 6 = .ok (.invokestatic 240, 3) := by decide +kernel
theorem d40_9 : decode jdk_43_method_50_code 9 = .ok (.return_, 1) := by decide +kernel
theorem pd_9 : parseMethodDescriptor "([BI[BII)V" = some ⟨[(.array .byte), .int, (.array .byte), .int, .int], none⟩ := by decide +kernel
theorem pn_40 : plainName "java/lang/StringLatin1" = true := by first | (simp [plainName, overriddenIn]; done) | decide +kernel
theorem ef_40 (m : MethodId) (ra : Addr) (p2 : Int32) (rb : Addr) (p4 : Int32) (p5 : Int32)  : entryFrame m #[(.ref ra), (.int p2), (.ref rb), (.int p4), (.int p5)] 5 = mkF m 0 #[.val (.ref ra), .val (.int p2), .val (.ref rb), .val (.int p4), .val (.int p5)] [] := by first | (simp [entryFrame, mkF, argsToLocals, Value.category]; done) | rfl
def Q40 (Z : State) (ra : Addr) (p2 : Int32) (rb : Addr) (p4 : Int32) (p5 : Int32) (fs_ : Value) (kA kB : ClassId) (gA gB : Nat → Value) (n : Nat) (ch : Nat → Nat) (h0 : Heap) (n0 : Nat) : Option Value → Heap → List Loc → Prop := fun v h L => ∃ g', v = none ∧ Fr n0 L ∧ Keep h0 h [rb] ∧ Arv Z h rb kB .byte (32 : Int32) (tab 32 g') (.int (0 : Int32)) ∧ U16of g' ch n
set_option maxRecDepth 65536 in
set_option maxHeartbeats 40000000 in
theorem rm40 (l : Launch) (Z : State) (a0 : Array Value) (hw : ∀ d ∈ tables_1, d.before a0 Z = true) (ws : List Jvm.Cond) (ra : Addr) (p2 : Int32) (rb : Addr) (p4 : Int32) (p5 : Int32) (fs_ : Value) (kA kB : ClassId) (gA gB : Nat → Value) (n : Nat) (ch : Nat → Nat) (h0 : Heap) (n0 : Nat) (Z0 : n0 ≤ h0.size) (O0 : Old Z n0 h0) (SD : Sta Z Z.heap "java/lang/StringUTF16" "$assertionsDisabled" "Z" (.int (1 : Int32))) (SH : Sta Z Z.heap "java/lang/StringUTF16" "HI_BYTE_SHIFT" "I" (.int (0 : Int32))) (SL : Sta Z Z.heap "java/lang/StringUTF16" "LO_BYTE_SHIFT" "I" (.int (8 : Int32))) (SF : Sta Z Z.heap "jdk/internal/util/Preconditions" "SIOOBE_FORMATTER" "Ljava/util/function/BiFunction;" fs_) (hc_s : fs_.category = 1) (VA : Arv Z h0 ra kA .byte (16 : Int32) (tab 16 gA) (.int (0 : Int32))) (VB : Arv Z h0 rb kB .byte (32 : Int32) (tab 32 gB) (.int (0 : Int32))) (hne : ra ≠ rb) (gb_ : n0 ≤ rb) (hp2 : p2 = (0 : Int32)) (hp4 : p4 = (0 : Int32)) (hp5 : p5 = Int32.ofNat n) (hn : n ≤ 16) (hA : ∀ i < n, gA i = .int (sb (ch i)) ∧ ch i < 256) :
    MetFree l (⟨"java/lang/StringLatin1", "inflate", "([BI[BII)V"⟩ : MethodName) (head1 (Jvm.Cond.code (⟨"java/lang/StringLatin1", "inflate", "([BI[BII)V"⟩ : MethodName) jdk_43_method_50_code 5 none :: ws) ({ frames := 4, cells := 0, slots := 0, locals := 107 } : Room)) (fun a U => a = #[(.ref ra), (.int p2), (.ref rb), (.int p4), (.int p5)] ∧ Z.Warmed39 U.vm ∧ U.heap = h0) (fun _ _ _ _ _ => True) (fun _ U o U' => ∃ v L, o = .returned v ∧ (Q40 Z ra p2 rb p4 p5 fs_ kA kB gA gB n ch h0 n0) v U'.heap L ∧ FrameEnd U o U' L ({ frames := 4, cells := 0, slots := 0, locals := 107 } : Room).cells ({ frames := 4, cells := 0, slots := 0, locals := 107 } : Room).slots) := by
  refine MetFree.of_bodySF (plainFor_of_name pn_40) hisR ?_
  intro p e s m args below meth c s₁ Bd hml0 hP hK
  obtain ⟨rfl, hZ, hh⟩ := hP
  have hx := Bd.exec
  have hby := Bd.bytes
  have hml : c.maxLocals = 5 := hml0
  have hown : s.vm.findClass "java/lang/StringLatin1" = some m.cls := findClass_of_methodNamed Bd.named
  have hnm := (name_of_methodNamed Bd.named Bd.method).1
  have X0 : Stand p l e ({ frames := 4, cells := 0, slots := 0, locals := 107 } : Room) s m #[(.ref ra), (.int p2), (.ref rb), (.int p4), (.int p5)] below meth c s₁ [] 0 0 := Stand.of_body Bd
  have e0 : s₁.heap = h0 := by rw [← hh, Bd.state]; rfl
  have N0 := Fr.nil n0
  show Own.Fin p e below _ (Own.Post s (Q40 Z ra p2 rb p4 p5 fs_ kA kB gA gB n ch h0 n0) ({ frames := 4, cells := 0, slots := 0, locals := 107 } : Room).cells ({ frames := 4, cells := 0, slots := 0, locals := 107 } : Room).slots)
  refine Own.start (ef_40 m ra p2 rb p4 p5) ?_
  show Own.Fin p e below (s₁.setTop (mkF m 0 #[.val (.ref ra), .val (.int p2), .val (.ref rb), .val (.int p4), .val (.int p5)] [])) _
  refine Own.go (fun t k => XS.aloadN X0.here hx rfl (hb hby d40_0) rfl rfl k) ?_
  show Own.Fin p e below (s₁.setTop (mkF m 1 #[.val (.ref ra), .val (.int p2), .val (.ref rb), .val (.int p4), .val (.int p5)] [(.ref ra)])) _
  refine Own.go (fun t k => XS.iloadN X0.here hx rfl (hb hby d40_1) rfl k) ?_
  show Own.Fin p e below (s₁.setTop (mkF m 2 #[.val (.ref ra), .val (.int p2), .val (.ref rb), .val (.int p4), .val (.int p5)] [(.int p2), (.ref ra)])) _
  refine Own.go (fun t k => XS.aloadN X0.here hx rfl (hb hby d40_2) rfl rfl k) ?_
  show Own.Fin p e below (s₁.setTop (mkF m 3 #[.val (.ref ra), .val (.int p2), .val (.ref rb), .val (.int p4), .val (.int p5)] [(.ref rb), (.int p2), (.ref ra)])) _
  refine Own.go (fun t k => XS.iloadN X0.here hx rfl (hb hby d40_3) rfl k) ?_
  show Own.Fin p e below (s₁.setTop (mkF m 4 #[.val (.ref ra), .val (.int p2), .val (.ref rb), .val (.int p4), .val (.int p5)] [(.int p4), (.ref rb), (.int p2), (.ref ra)])) _
  refine Own.go (fun t k => XS.iload X0.here hx rfl (hb hby d40_4) rfl k) ?_
  show Own.Fin p e below (s₁.setTop (mkF m 6 #[.val (.ref ra), .val (.int p2), .val (.ref rb), .val (.int p4), .val (.int p5)] [(.int p5), (.int p4), (.ref rb), (.int p2), (.ref ra)])) _
  refine Own.cS X0 hx hZ hown (hw _ (List.mem_of_getElem? (i := 234) rfl)) (hw _ (List.mem_of_getElem? (i := 235) rfl)) (hw _ (List.mem_of_getElem? (i := 225) rfl)) (hw _ (List.mem_of_getElem? (i := 236) rfl)) (by decide) (rm41 l Z a0 hw [] ra p2 rb p4 p5 fs_ kA kB gA gB n ch h0 n0 Z0 O0 SD SH SL SF hc_s VA VB hne gb_ hp2 hp4 hp5 hn hA) (by decide) (W := 0) (by decide) (argsL := [(.ref ra), (.int p2), (.ref rb), (.int p4), (.int p5)]) (rest := []) (by rw [hml]; rfl) (lenOf pd_9 rfl) rfl (Nat.le_of_eq rfl) (hb hby d40_6) e0 (by decide) (by decide) ?_
  intro T1 L1 v1 X1 hQ1
  obtain ⟨g1, rfl, N1q, K1q, V1, hU1⟩ := hQ1
  have N1 := Fr.app N0 N1q
  have f2 := VA.keep K1q (ninS hne nin0)
  have Z1 : n0 ≤ T1.heap.size := Nat.le_trans Z0 K1q.1
  have KK1 := (Keep.refl h0 [rb]).trans K1q (allS (Or.inl (List.mem_cons_self ..)) all0)
  have O1 := O0.keep K1q (allS gb_ all0)
  show Own.Fin p e below (T1.setTop (mkF m 9 #[.val (.ref ra), .val (.int p2), .val (.ref rb), .val (.int p4), .val (.int p5)] [])) _
  refine Own.retV X1 hx Bd.notSynchronized Bd.returns (hb hby d40_9) (by decide) (by decide) ?_
  exact ⟨g1, rfl, N1, by first | exact KK1 | (rw [rfl]; exact KK1), by first | exact V1 | (rw [rfl]; exact V1), hU1⟩
def App (g g' : Nat → Value) (cc : Nat → Nat) (n sN d : Nat) : Prop := (∀ k < 2 * n, g' k = g k) ∧ ∀ i < d, g' (2 * (n + i)) = .int (sb (cc (sN + i) % 256)) ∧ g' (2 * (n + i) + 1) = .int (sb (cc (sN + i) / 256))
theorem app_step {g g1 g2 : Nat → Value} {cc : Nat → Nat} {n sN j : Nat} (h : App g g1 cc n sN j) (hp : PutC g1 g2 (n + j) (cc (sN + j))) : App g g2 cc n sN (j + 1) := by
  refine ⟨fun k hk => ?_, fun i hi => ?_⟩
  · rw [hp.1 _ (by omega) (by omega)]; exact h.1 k hk
  · by_cases q : i = j
    · subst q; exact hp.2
    · rw [hp.1 _ (by omega) (by omega), hp.1 _ (by omega) (by omega)]; exact h.2 i (by omega)
theorem app_0 (g : Nat → Value) (cc : Nat → Nat) (n sN : Nat) : App g g cc n sN 0 := ⟨fun _ _ => rfl, fun i hi => absurd hi (Nat.not_lt_zero i)⟩
theorem d49_0 : decode jdk_52_method_68_code 0 = .ok (.iload_n 3, 1) := by decide +kernel
theorem d49_1 : decode jdk_52_method_68_code 1 = .ok (.iload 4, 2) := by decide +kernel
theorem d49_3 : decode jdk_52_method_68_code 3 = .ok (.if_icmp .ge 20, 3) := by decide +kernel
theorem d49_6 : decode jdk_52_method_68_code 6 = .ok (.aload_n 0, 1) := by decide +kernel
theorem d49_7 : decode jdk_52_method_68_code 7 = .ok (.iload_n 1, 1) := by decide +kernel
theorem d49_8 : decode jdk_52_method_68_code 8 = .ok (.iinc 1 1, 3) := by decide +kernel
theorem d49_11 : decode jdk_52_method_68_code 11 = .ok (.aload_n 2, 1) := by decide +kernel
theorem d49_12 : decode jdk_52_method_68_code 12 = .ok (.iload_n 3, 1) := by decide +kernel
theorem d49_13 : decode jdk_52_method_68_code 13 = .ok (.iinc 3 1, 3) := by decide +kernel
theorem d49_16 : decode jdk_52_method_68_code 16 = .ok (.caload, 1) := by decide +kernel
theorem d49_17 : decode jdk_52_method_68_code 17 = .ok (.invokestatic 111, 3) := by decide +kernel
theorem d49_20 : decode jdk_52_method_68_code 20 = .ok (.goto (-20), 3) := by decide +kernel
theorem d49_23 : decode jdk_52_method_68_code 23 = .ok (.return_, 1) := by decide +kernel
theorem pn_49 : plainName "java/lang/StringUTF16" = true := by first | (simp [plainName, overriddenIn]; done) | decide +kernel
theorem ef_49 (m : MethodId) (rb : Addr) (p2 : Int32) (ra : Addr) (p4 : Int32) (p5 : Int32)  : entryFrame m #[(.ref rb), (.int p2), (.ref ra), (.int p4), (.int p5)] 5 = mkF m 0 #[.val (.ref rb), .val (.int p2), .val (.ref ra), .val (.int p4), .val (.int p5)] [] := by first | (simp [entryFrame, mkF, argsToLocals, Value.category]; done) | rfl
def Q49 (Z : State) (rb : Addr) (p2 : Int32) (ra : Addr) (p4 : Int32) (p5 : Int32) (kA kB : ClassId) (gB : Nat → Value) (n sN eN : Nat) (cc : Nat → Nat) (h0 : Heap) (n0 : Nat) : Option Value → Heap → List Loc → Prop := fun v h L => ∃ g', v = none ∧ Fr n0 L ∧ Keep h0 h [rb] ∧ Arv Z h rb kB .byte (32 : Int32) (tab 32 g') (.int (0 : Int32)) ∧ App gB g' cc n sN (eN - sN)
set_option maxRecDepth 65536 in
set_option maxHeartbeats 40000000 in
theorem rm49 (l : Launch) (Z : State) (a0 : Array Value) (hw : ∀ d ∈ tables_1, d.before a0 Z = true) (ws : List Jvm.Cond) (rb : Addr) (p2 : Int32) (ra : Addr) (p4 : Int32) (p5 : Int32) (kA kB : ClassId) (gB : Nat → Value) (n sN eN : Nat) (cc : Nat → Nat) (h0 : Heap) (n0 : Nat) (Z0 : n0 ≤ h0.size) (O0 : Old Z n0 h0) (SD : Sta Z Z.heap "java/lang/StringUTF16" "$assertionsDisabled" "Z" (.int (1 : Int32))) (SH : Sta Z Z.heap "java/lang/StringUTF16" "HI_BYTE_SHIFT" "I" (.int (0 : Int32))) (SL : Sta Z Z.heap "java/lang/StringUTF16" "LO_BYTE_SHIFT" "I" (.int (8 : Int32))) (VB : Arv Z h0 rb kB .byte (32 : Int32) (tab 32 gB) (.int (0 : Int32))) (VA : Arv Z h0 ra kA .char (4 : Int32) (tab 4 (fun i => Value.int (Int32.ofNat (cc i)))) (.int (0 : Int32))) (hne : ra ≠ rb) (gb_ : n0 ≤ rb) (hp2 : p2 = Int32.ofNat n) (hp4 : p4 = Int32.ofNat sN) (hp5 : p5 = Int32.ofNat eN) (hse : sN ≤ eN) (he4 : eN ≤ 4) (hn : n + (eN - sN) ≤ 16) (hcc : ∀ i, cc i < 65536) :
    MetFree l (⟨"java/lang/StringUTF16", "putChars", "([BI[CII)V"⟩ : MethodName) (head1 (Jvm.Cond.code (⟨"java/lang/StringUTF16", "putChars", "([BI[CII)V"⟩ : MethodName) jdk_52_method_68_code 5 none :: ws) ({ frames := 1, cells := 0, slots := 0, locals := 16 } : Room)) (fun a U => a = #[(.ref rb), (.int p2), (.ref ra), (.int p4), (.int p5)] ∧ Z.Warmed39 U.vm ∧ U.heap = h0) (fun _ _ _ _ _ => True) (fun _ U o U' => ∃ v L, o = .returned v ∧ (Q49 Z rb p2 ra p4 p5 kA kB gB n sN eN cc h0 n0) v U'.heap L ∧ FrameEnd U o U' L ({ frames := 1, cells := 0, slots := 0, locals := 16 } : Room).cells ({ frames := 1, cells := 0, slots := 0, locals := 16 } : Room).slots) := by
  refine MetFree.of_bodySF (plainFor_of_name pn_49) hisR ?_
  intro p e s m args below meth c s₁ Bd hml0 hP hK
  obtain ⟨rfl, hZ, hh⟩ := hP
  have hx := Bd.exec
  have hby := Bd.bytes
  have hml : c.maxLocals = 5 := hml0
  have hown : s.vm.findClass "java/lang/StringUTF16" = some m.cls := findClass_of_methodNamed Bd.named
  have hnm := (name_of_methodNamed Bd.named Bd.method).1
  have X0 : Stand p l e ({ frames := 1, cells := 0, slots := 0, locals := 16 } : Room) s m #[(.ref rb), (.int p2), (.ref ra), (.int p4), (.int p5)] below meth c s₁ [] 0 0 := Stand.of_body Bd
  have e0 : s₁.heap = h0 := by rw [← hh, Bd.state]; rfl
  have N0 := Fr.nil n0
  show Own.Fin p e below _ (Own.Post s (Q49 Z rb p2 ra p4 p5 kA kB gB n sN eN cc h0 n0) ({ frames := 1, cells := 0, slots := 0, locals := 16 } : Room).cells ({ frames := 1, cells := 0, slots := 0, locals := 16 } : Room).slots)
  refine Own.start (ef_49 m rb p2 ra p4 p5) ?_
  show Own.Fin p e below (s₁.setTop (mkF m 0 #[.val (.ref rb), .val (.int p2), .val (.ref ra), .val (.int p4), .val (.int p5)] [])) _
  rw [hp2, hp4, hp5]
  have loop1 : ∀ (dd j : Nat) (hjd : j + dd = (eN - sN)) (Tj : State) (hj : Heap) (Lj : List Loc) (g : Nat → Value) (Xj : Stand p l e ({ frames := 1, cells := 0, slots := 0, locals := 16 } : Room) s m #[(.ref rb), (.int p2), (.ref ra), (.int p4), (.int p5)] below meth c Tj Lj 0 0) (ej : Tj.heap = hj) (Nj : Fr n0 Lj) (Zj : n0 ≤ hj.size) (Oj : Old Z n0 hj) (Kj : Keep h0 hj [rb]) (Vj0 : Arv Z hj ra kA .char (4 : Int32) (tab 4 (fun i => Value.int (Int32.ofNat (cc i)))) (.int (0 : Int32))) (Vj1 : Arv Z hj rb kB .byte (32 : Int32) (tab 32 g) (.int (0 : Int32))) (hu : App gB g cc n sN j), Own.Fin p e below (Tj.setTop (mkF m 0 #[.val (.ref rb), .val (.int (Int32.ofNat (n + j))), .val (.ref ra), .val (.int (Int32.ofNat (sN + j))), .val (.int (Int32.ofNat eN))] [])) (Own.Post s (Q49 Z rb p2 ra p4 p5 kA kB gB n sN eN cc h0 n0) ({ frames := 1, cells := 0, slots := 0, locals := 16 } : Room).cells ({ frames := 1, cells := 0, slots := 0, locals := 16 } : Room).slots) := by
    intro dd
    induction dd with
    | zero =>
      intro j hjd Tj hj Lj g Xj ej Nj Zj Oj Kj Vj0 Vj1 hu
      have hjd' : j = (eN - sN) := by omega
      rw [hjd'] at hu ⊢
      show Own.Fin p e below (Tj.setTop (mkF m 0 #[.val (.ref rb), .val (.int (Int32.ofNat (n + (eN - sN)))), .val (.ref ra), .val (.int (Int32.ofNat (sN + (eN - sN)))), .val (.int (Int32.ofNat eN))] [])) _
      refine Own.go (fun t k => XS.iloadN Xj.here hx rfl (hb hby d49_0) rfl k) ?_
      show Own.Fin p e below (Tj.setTop (mkF m 1 #[.val (.ref rb), .val (.int (Int32.ofNat (n + (eN - sN)))), .val (.ref ra), .val (.int (Int32.ofNat (sN + (eN - sN)))), .val (.int (Int32.ofNat eN))] [(.int (Int32.ofNat (sN + (eN - sN))))])) _
      refine Own.go (fun t k => XS.iload Xj.here hx rfl (hb hby d49_1) rfl k) ?_
      show Own.Fin p e below (Tj.setTop (mkF m 3 #[.val (.ref rb), .val (.int (Int32.ofNat (n + (eN - sN)))), .val (.ref ra), .val (.int (Int32.ofNat (sN + (eN - sN)))), .val (.int (Int32.ofNat eN))] [(.int (Int32.ofNat eN)), (.int (Int32.ofNat (sN + (eN - sN))))])) _
      have hc3_0 : ¬ ((Int32.ofNat (sN + (eN - sN))) < (Int32.ofNat eN)) := fun h => absurd ((i_lt _ _ (by omega) (by omega)).mp h) (by omega)
      refine Own.go (fun t k => XS.icmpYes Xj.here hx rfl (pc0 := 3) (pc' := 23) rfl (hb hby d49_3) rfl (flt hc3_0).2.1 (by decide) (by decide) k) ?_
      show Own.Fin p e below (Tj.setTop (mkF m 23 #[.val (.ref rb), .val (.int (Int32.ofNat (n + (eN - sN)))), .val (.ref ra), .val (.int (Int32.ofNat (sN + (eN - sN)))), .val (.int (Int32.ofNat eN))] [])) _
      refine Own.retV Xj hx Bd.notSynchronized Bd.returns (hb hby d49_23) (by decide) (by decide) ?_
      exact ⟨g, rfl, Nj, by rw [ej]; exact Kj, by rw [ej]; exact Vj1, hu⟩
    | succ dd ih =>
      intro j hjd Tj hj Lj g Xj ej Nj Zj Oj Kj Vj0 Vj1 hu
      show Own.Fin p e below (Tj.setTop (mkF m 0 #[.val (.ref rb), .val (.int (Int32.ofNat (n + j))), .val (.ref ra), .val (.int (Int32.ofNat (sN + j))), .val (.int (Int32.ofNat eN))] [])) _
      refine Own.go (fun t k => XS.iloadN Xj.here hx rfl (hb hby d49_0) rfl k) ?_
      show Own.Fin p e below (Tj.setTop (mkF m 1 #[.val (.ref rb), .val (.int (Int32.ofNat (n + j))), .val (.ref ra), .val (.int (Int32.ofNat (sN + j))), .val (.int (Int32.ofNat eN))] [(.int (Int32.ofNat (sN + j)))])) _
      refine Own.go (fun t k => XS.iload Xj.here hx rfl (hb hby d49_1) rfl k) ?_
      show Own.Fin p e below (Tj.setTop (mkF m 3 #[.val (.ref rb), .val (.int (Int32.ofNat (n + j))), .val (.ref ra), .val (.int (Int32.ofNat (sN + j))), .val (.int (Int32.ofNat eN))] [(.int (Int32.ofNat eN)), (.int (Int32.ofNat (sN + j)))])) _
      have hc3_1 : (Int32.ofNat (sN + j)) < (Int32.ofNat eN) := (i_lt _ _ (by omega) (by omega)).mpr (by omega)
      refine Own.go (fun t k => XS.icmpNo Xj.here hx rfl (hb hby d49_3) rfl (tlt hc3_1).2.1 k) ?_
      show Own.Fin p e below (Tj.setTop (mkF m 6 #[.val (.ref rb), .val (.int (Int32.ofNat (n + j))), .val (.ref ra), .val (.int (Int32.ofNat (sN + j))), .val (.int (Int32.ofNat eN))] [])) _
      refine Own.go (fun t k => XS.aloadN Xj.here hx rfl (hb hby d49_6) rfl rfl k) ?_
      show Own.Fin p e below (Tj.setTop (mkF m 7 #[.val (.ref rb), .val (.int (Int32.ofNat (n + j))), .val (.ref ra), .val (.int (Int32.ofNat (sN + j))), .val (.int (Int32.ofNat eN))] [(.ref rb)])) _
      refine Own.go (fun t k => XS.iloadN Xj.here hx rfl (hb hby d49_7) rfl k) ?_
      show Own.Fin p e below (Tj.setTop (mkF m 8 #[.val (.ref rb), .val (.int (Int32.ofNat (n + j))), .val (.ref ra), .val (.int (Int32.ofNat (sN + j))), .val (.int (Int32.ofNat eN))] [(.int (Int32.ofNat (n + j))), (.ref rb)])) _
      refine Own.go (fun t k => XS.iinc Xj.here hx rfl (hb hby d49_8) rfl (l' := #[.val (.ref rb), .val (.int ((Int32.ofNat (n + j)) + (1 : Int32))), .val (.ref ra), .val (.int (Int32.ofNat (sN + j))), .val (.int (Int32.ofNat eN))]) rfl k) ?_
      show Own.Fin p e below (Tj.setTop (mkF m 11 #[.val (.ref rb), .val (.int ((Int32.ofNat (n + j)) + (1 : Int32))), .val (.ref ra), .val (.int (Int32.ofNat (sN + j))), .val (.int (Int32.ofNat eN))] [(.int (Int32.ofNat (n + j))), (.ref rb)])) _
      rw [show (((Int32.ofNat (n + j)) + (1 : Int32)) : Int32) = (Int32.ofNat (n + (j + 1))) from (Int32.ofNat_add (n + j) 1).symm]
      show Own.Fin p e below (Tj.setTop (mkF m 11 #[.val (.ref rb), .val (.int (Int32.ofNat (n + (j + 1)))), .val (.ref ra), .val (.int (Int32.ofNat (sN + j))), .val (.int (Int32.ofNat eN))] [(.int (Int32.ofNat (n + j))), (.ref rb)])) _
      refine Own.go (fun t k => XS.aloadN Xj.here hx rfl (hb hby d49_11) rfl rfl k) ?_
      show Own.Fin p e below (Tj.setTop (mkF m 12 #[.val (.ref rb), .val (.int (Int32.ofNat (n + (j + 1)))), .val (.ref ra), .val (.int (Int32.ofNat (sN + j))), .val (.int (Int32.ofNat eN))] [(.ref ra), (.int (Int32.ofNat (n + j))), (.ref rb)])) _
      refine Own.go (fun t k => XS.iloadN Xj.here hx rfl (hb hby d49_12) rfl k) ?_
      show Own.Fin p e below (Tj.setTop (mkF m 13 #[.val (.ref rb), .val (.int (Int32.ofNat (n + (j + 1)))), .val (.ref ra), .val (.int (Int32.ofNat (sN + j))), .val (.int (Int32.ofNat eN))] [(.int (Int32.ofNat (sN + j))), (.ref ra), (.int (Int32.ofNat (n + j))), (.ref rb)])) _
      refine Own.go (fun t k => XS.iinc Xj.here hx rfl (hb hby d49_13) rfl (l' := #[.val (.ref rb), .val (.int (Int32.ofNat (n + (j + 1)))), .val (.ref ra), .val (.int ((Int32.ofNat (sN + j)) + (1 : Int32))), .val (.int (Int32.ofNat eN))]) rfl k) ?_
      show Own.Fin p e below (Tj.setTop (mkF m 16 #[.val (.ref rb), .val (.int (Int32.ofNat (n + (j + 1)))), .val (.ref ra), .val (.int ((Int32.ofNat (sN + j)) + (1 : Int32))), .val (.int (Int32.ofNat eN))] [(.int (Int32.ofNat (sN + j))), (.ref ra), (.int (Int32.ofNat (n + j))), (.ref rb)])) _
      rw [show (((Int32.ofNat (sN + j)) + (1 : Int32)) : Int32) = (Int32.ofNat (sN + (j + 1))) from (Int32.ofNat_add (sN + j) 1).symm]
      show Own.Fin p e below (Tj.setTop (mkF m 16 #[.val (.ref rb), .val (.int (Int32.ofNat (n + (j + 1)))), .val (.ref ra), .val (.int (Int32.ofNat (sN + (j + 1)))), .val (.int (Int32.ofNat eN))] [(.int (Int32.ofNat (sN + j))), (.ref ra), (.int (Int32.ofNat (n + j))), (.ref rb)])) _
      refine ldCT (x := (Int32.ofNat (cc (sN + j)))) Xj hx hZ ej Vj0 (hb hby d49_16) rfl (by decide) (sN + j) rfl (by omega) rfl ?_
      show Own.Fin p e below (Tj.setTop (mkF m 17 #[.val (.ref rb), .val (.int (Int32.ofNat (n + (j + 1)))), .val (.ref ra), .val (.int (Int32.ofNat (sN + (j + 1)))), .val (.int (Int32.ofNat eN))] [(.int (Int32.ofNat (cc (sN + j)))), (.int (Int32.ofNat (n + j))), (.ref rb)])) _
      refine Own.cS Xj hx hZ hown (hw _ (List.mem_of_getElem? (i := 262) rfl)) (hw _ (List.mem_of_getElem? (i := 263) rfl)) (hw _ (List.mem_of_getElem? (i := 225) rfl)) (hw _ (List.mem_of_getElem? (i := 264) rfl)) (by decide) (rm50 l Z a0 hw [] rb (Int32.ofNat (n + j)) (Int32.ofNat (cc (sN + j))) kB (32 : Int32) 32 g (n + j) (cc (sN + j)) hj n0 Zj Oj SD SH SL Vj1 gb_ rfl (by decide) rfl (by omega) (by omega) rfl (hcc _)) (by decide) (W := 0) (by decide) (argsL := [(.ref rb), (.int (Int32.ofNat (n + j))), (.int (Int32.ofNat (cc (sN + j))))]) (rest := []) (by rw [hml]; rfl) (lenOf pd_8 rfl) rfl (Nat.le_of_eq rfl) (hb hby d49_17) ej (by decide) (by decide) ?_
      intro T3 L3 v3 X3 hQ3
      obtain ⟨g3, rfl, N3q, K3q, V3, PC3⟩ := hQ3
      have N3 := Fr.app Nj N3q
      have f4 := Vj0.keep K3q (ninS hne nin0)
      have Z3 : n0 ≤ T3.heap.size := Nat.le_trans Zj K3q.1
      have KK3 := Kj.trans K3q (allS (Or.inl (List.mem_cons_self ..)) all0)
      have O3 := Oj.keep K3q (allS gb_ all0)
      show Own.Fin p e below (T3.setTop (mkF m 20 #[.val (.ref rb), .val (.int (Int32.ofNat (n + (j + 1)))), .val (.ref ra), .val (.int (Int32.ofNat (sN + (j + 1)))), .val (.int (Int32.ofNat eN))] [])) _
      refine Own.go (fun t k => XS.goto X3.here hx rfl (pc0 := 20) (pc' := 0) rfl (hb hby d49_20) (by decide) (by decide) k) ?_
      show Own.Fin p e below (T3.setTop (mkF m 0 #[.val (.ref rb), .val (.int (Int32.ofNat (n + (j + 1)))), .val (.ref ra), .val (.int (Int32.ofNat (sN + (j + 1)))), .val (.int (Int32.ofNat eN))] [])) _
      exact ih (j + 1) (by omega) _ _ _ _ X3 rfl N3 Z3 O3 KK3 f4 V3 (app_step hu PC3)
  show Own.Fin p e below (s₁.setTop (mkF m 0 #[.val (.ref rb), .val (.int (Int32.ofNat (n + 0))), .val (.ref ra), .val (.int (Int32.ofNat (sN + 0))), .val (.int (Int32.ofNat eN))] [])) _
  exact loop1 (eN - sN) 0 (by omega) _ _ _ _ X0 e0 N0 Z0 O0 (Keep.refl h0 [rb]) VA VB (app_0 gB cc n sN)
theorem d46_0 : decode jdk_52_method_72_code 0 = .ok (.iload_n 1, 1) := by decide +kernel
theorem d46_1 : decode jdk_52_method_72_code 1 = .ok (.iload_n 1, 1) := by decide +kernel
theorem d46_2 : decode jdk_52_method_72_code 2 = .ok (.iload 4, 2) := by decide +kernel
theorem d46_4 : decode jdk_52_method_72_code 4 = .ok (.iadd, 1) := by decide +kernel
theorem d46_5 : decode jdk_52_method_72_code 5 = .ok (.iload_n 3, 1) := by decide +kernel
theorem d46_6 : decode jdk_52_method_72_code 6 = .ok (.isub, 1) := by decide +kernel
theorem d46_7 : decode jdk_52_method_72_code 7 = .ok (.aload_n 0, 1) := by decide +kernel
theorem d46_8 : decode jdk_52_method_72_code 8 = .ok (.invokestatic 96, 3) := by decide +kernel
theorem d46_11 : decode jdk_52_method_72_code 11 = .ok (.aload_n 0, 1) := by decide +kernel
theorem d46_12 : decode jdk_52_method_72_code 12 = .ok (.iload_n 1, 1) := by decide +kernel
theorem d46_13 : decode jdk_52_method_72_code 13 = .ok (.aload_n 2, 1) := by decide +kernel
theorem d46_14 : decode jdk_52_method_72_code 14 = .ok (.iload_n 3, 1) := by decide +kernel
theorem d46_15 : decode jdk_52_method_72_code 15 = .ok (.iload 4, 2) := by decide +kernel
theorem d46_17 : decode jdk_52_method_72_code 17 = .ok (.invokestatic 384, 3) := by decide +kernel
theorem d46_20 : decode jdk_52_method_72_code 20 = .ok (.return_, 1) := by decide +kernel
theorem pd_10 : parseMethodDescriptor "([BI[CII)V" = some ⟨[(.array .byte), .int, (.array .char), .int, .int], none⟩ := by decide +kernel
theorem pn_46 : plainName "java/lang/StringUTF16" = true := by first | (simp [plainName, overriddenIn]; done) | decide +kernel
theorem ef_46 (m : MethodId) (rb : Addr) (p2 : Int32) (ra : Addr) (p4 : Int32) (p5 : Int32)  : entryFrame m #[(.ref rb), (.int p2), (.ref ra), (.int p4), (.int p5)] 5 = mkF m 0 #[.val (.ref rb), .val (.int p2), .val (.ref ra), .val (.int p4), .val (.int p5)] [] := by first | (simp [entryFrame, mkF, argsToLocals, Value.category]; done) | rfl
def Q46 (Z : State) (rb : Addr) (p2 : Int32) (ra : Addr) (p4 : Int32) (p5 : Int32) (fs_ : Value) (kA kB : ClassId) (gB : Nat → Value) (n sN eN : Nat) (cc : Nat → Nat) (h0 : Heap) (n0 : Nat) : Option Value → Heap → List Loc → Prop := fun v h L => ∃ g', v = none ∧ Fr n0 L ∧ Keep h0 h [rb] ∧ Arv Z h rb kB .byte (32 : Int32) (tab 32 g') (.int (0 : Int32)) ∧ App gB g' cc n sN (eN - sN)
set_option maxRecDepth 65536 in
set_option maxHeartbeats 40000000 in
theorem rm46 (l : Launch) (Z : State) (a0 : Array Value) (hw : ∀ d ∈ tables_1, d.before a0 Z = true) (ws : List Jvm.Cond) (rb : Addr) (p2 : Int32) (ra : Addr) (p4 : Int32) (p5 : Int32) (fs_ : Value) (kA kB : ClassId) (gB : Nat → Value) (n sN eN : Nat) (cc : Nat → Nat) (h0 : Heap) (n0 : Nat) (Z0 : n0 ≤ h0.size) (O0 : Old Z n0 h0) (SD : Sta Z Z.heap "java/lang/StringUTF16" "$assertionsDisabled" "Z" (.int (1 : Int32))) (SH : Sta Z Z.heap "java/lang/StringUTF16" "HI_BYTE_SHIFT" "I" (.int (0 : Int32))) (SL : Sta Z Z.heap "java/lang/StringUTF16" "LO_BYTE_SHIFT" "I" (.int (8 : Int32))) (SF : Sta Z Z.heap "jdk/internal/util/Preconditions" "SIOOBE_FORMATTER" "Ljava/util/function/BiFunction;" fs_) (hc_s : fs_.category = 1) (VB : Arv Z h0 rb kB .byte (32 : Int32) (tab 32 gB) (.int (0 : Int32))) (VA : Arv Z h0 ra kA .char (4 : Int32) (tab 4 (fun i => Value.int (Int32.ofNat (cc i)))) (.int (0 : Int32))) (hne : ra ≠ rb) (gb_ : n0 ≤ rb) (hp2 : p2 = Int32.ofNat n) (hp4 : p4 = Int32.ofNat sN) (hp5 : p5 = Int32.ofNat eN) (hse : sN ≤ eN) (he4 : eN ≤ 4) (hn : n + (eN - sN) ≤ 16) (hcc : ∀ i, cc i < 65536) :
    MetFree l (⟨"java/lang/StringUTF16", "putCharsSB", "([BI[CII)V"⟩ : MethodName) (head1 (Jvm.Cond.code (⟨"java/lang/StringUTF16", "putCharsSB", "([BI[CII)V"⟩ : MethodName) jdk_52_method_72_code 5 none :: ws) ({ frames := 3, cells := 0, slots := 0, locals := 80 } : Room)) (fun a U => a = #[(.ref rb), (.int p2), (.ref ra), (.int p4), (.int p5)] ∧ Z.Warmed39 U.vm ∧ U.heap = h0) (fun _ _ _ _ _ => True) (fun _ U o U' => ∃ v L, o = .returned v ∧ (Q46 Z rb p2 ra p4 p5 fs_ kA kB gB n sN eN cc h0 n0) v U'.heap L ∧ FrameEnd U o U' L ({ frames := 3, cells := 0, slots := 0, locals := 80 } : Room).cells ({ frames := 3, cells := 0, slots := 0, locals := 80 } : Room).slots) := by
  refine MetFree.of_bodySF (plainFor_of_name pn_46) hisR ?_
  intro p e s m args below meth c s₁ Bd hml0 hP hK
  obtain ⟨rfl, hZ, hh⟩ := hP
  have hx := Bd.exec
  have hby := Bd.bytes
  have hml : c.maxLocals = 5 := hml0
  have hown : s.vm.findClass "java/lang/StringUTF16" = some m.cls := findClass_of_methodNamed Bd.named
  have hnm := (name_of_methodNamed Bd.named Bd.method).1
  have X0 : Stand p l e ({ frames := 3, cells := 0, slots := 0, locals := 80 } : Room) s m #[(.ref rb), (.int p2), (.ref ra), (.int p4), (.int p5)] below meth c s₁ [] 0 0 := Stand.of_body Bd
  have e0 : s₁.heap = h0 := by rw [← hh, Bd.state]; rfl
  have N0 := Fr.nil n0
  show Own.Fin p e below _ (Own.Post s (Q46 Z rb p2 ra p4 p5 fs_ kA kB gB n sN eN cc h0 n0) ({ frames := 3, cells := 0, slots := 0, locals := 80 } : Room).cells ({ frames := 3, cells := 0, slots := 0, locals := 80 } : Room).slots)
  refine Own.start (ef_46 m rb p2 ra p4 p5) ?_
  show Own.Fin p e below (s₁.setTop (mkF m 0 #[.val (.ref rb), .val (.int p2), .val (.ref ra), .val (.int p4), .val (.int p5)] [])) _
  refine Own.go (fun t k => XS.iloadN X0.here hx rfl (hb hby d46_0) rfl k) ?_
  show Own.Fin p e below (s₁.setTop (mkF m 1 #[.val (.ref rb), .val (.int p2), .val (.ref ra), .val (.int p4), .val (.int p5)] [(.int p2)])) _
  refine Own.go (fun t k => XS.iloadN X0.here hx rfl (hb hby d46_1) rfl k) ?_
  show Own.Fin p e below (s₁.setTop (mkF m 2 #[.val (.ref rb), .val (.int p2), .val (.ref ra), .val (.int p4), .val (.int p5)] [(.int p2), (.int p2)])) _
  refine Own.go (fun t k => XS.iload X0.here hx rfl (hb hby d46_2) rfl k) ?_
  show Own.Fin p e below (s₁.setTop (mkF m 4 #[.val (.ref rb), .val (.int p2), .val (.ref ra), .val (.int p4), .val (.int p5)] [(.int p5), (.int p2), (.int p2)])) _
  refine Own.go (fun t k => XS.iadd X0.here hx rfl (hb hby d46_4) rfl k) ?_
  show Own.Fin p e below (s₁.setTop (mkF m 5 #[.val (.ref rb), .val (.int p2), .val (.ref ra), .val (.int p4), .val (.int p5)] [(.int (p2 + p5)), (.int p2)])) _
  refine Own.go (fun t k => XS.iloadN X0.here hx rfl (hb hby d46_5) rfl k) ?_
  show Own.Fin p e below (s₁.setTop (mkF m 6 #[.val (.ref rb), .val (.int p2), .val (.ref ra), .val (.int p4), .val (.int p5)] [(.int p4), (.int (p2 + p5)), (.int p2)])) _
  refine Own.go (fun t k => XS.isub X0.here hx rfl (hb hby d46_6) rfl k) ?_
  show Own.Fin p e below (s₁.setTop (mkF m 7 #[.val (.ref rb), .val (.int p2), .val (.ref ra), .val (.int p4), .val (.int p5)] [(.int ((p2 + p5) - p4)), (.int p2)])) _
  refine Own.go (fun t k => XS.aloadN X0.here hx rfl (hb hby d46_7) rfl rfl k) ?_
  show Own.Fin p e below (s₁.setTop (mkF m 8 #[.val (.ref rb), .val (.int p2), .val (.ref ra), .val (.int p4), .val (.int p5)] [(.ref rb), (.int ((p2 + p5) - p4)), (.int p2)])) _
  rw [show ((p2 + p5) - p4) = (Int32.ofNat (n + (eN - sN))) from (by rw [hp2, hp4, hp5, ← Int32.ofNat_add, ← Int32.ofNat_sub _ _ (by omega)]; congr 1; omega)]
  show Own.Fin p e below (s₁.setTop (mkF m 8 #[.val (.ref rb), .val (.int p2), .val (.ref ra), .val (.int p4), .val (.int p5)] [(.ref rb), (.int (Int32.ofNat (n + (eN - sN)))), (.int p2)])) _
  refine Own.cS X0 hx hZ hown (hw _ (List.mem_of_getElem? (i := 252) rfl)) (hw _ (List.mem_of_getElem? (i := 253) rfl)) (hw _ (List.mem_of_getElem? (i := 225) rfl)) (hw _ (List.mem_of_getElem? (i := 254) rfl)) (by decide) (rm47 l Z a0 hw [] p2 (Int32.ofNat (n + (eN - sN))) rb fs_ kB (32 : Int32) 32 gB h0 n0 Z0 O0 SF hc_s VB (by rw [hp2]; exact fun q => absurd ((i_lt n 0 (by omega) (by decide)).mp q) (by omega)) (by rw [hp2]; exact fun q => absurd ((i_lt _ _ (by omega) (by omega)).mp q) (by omega)) (fun q => absurd ((i_lt 16 _ (by decide) (by omega)).mp q) (by omega))) (by decide) (W := 0) (by decide) (argsL := [(.int p2), (.int (Int32.ofNat (n + (eN - sN)))), (.ref rb)]) (rest := []) (by rw [hml]; rfl) (lenOf pd_7 rfl) rfl (Nat.le_of_eq rfl) (hb hby d46_8) e0 (by decide) (by decide) ?_
  intro T1 L1 v1 X1 hQ1
  obtain ⟨rfl, N1q, e1⟩ := hQ1
  have N1 := Fr.app N0 N1q
  show Own.Fin p e below (T1.setTop (mkF m 11 #[.val (.ref rb), .val (.int p2), .val (.ref ra), .val (.int p4), .val (.int p5)] [])) _
  refine Own.go (fun t k => XS.aloadN X1.here hx rfl (hb hby d46_11) rfl rfl k) ?_
  show Own.Fin p e below (T1.setTop (mkF m 12 #[.val (.ref rb), .val (.int p2), .val (.ref ra), .val (.int p4), .val (.int p5)] [(.ref rb)])) _
  refine Own.go (fun t k => XS.iloadN X1.here hx rfl (hb hby d46_12) rfl k) ?_
  show Own.Fin p e below (T1.setTop (mkF m 13 #[.val (.ref rb), .val (.int p2), .val (.ref ra), .val (.int p4), .val (.int p5)] [(.int p2), (.ref rb)])) _
  refine Own.go (fun t k => XS.aloadN X1.here hx rfl (hb hby d46_13) rfl rfl k) ?_
  show Own.Fin p e below (T1.setTop (mkF m 14 #[.val (.ref rb), .val (.int p2), .val (.ref ra), .val (.int p4), .val (.int p5)] [(.ref ra), (.int p2), (.ref rb)])) _
  refine Own.go (fun t k => XS.iloadN X1.here hx rfl (hb hby d46_14) rfl k) ?_
  show Own.Fin p e below (T1.setTop (mkF m 15 #[.val (.ref rb), .val (.int p2), .val (.ref ra), .val (.int p4), .val (.int p5)] [(.int p4), (.ref ra), (.int p2), (.ref rb)])) _
  refine Own.go (fun t k => XS.iload X1.here hx rfl (hb hby d46_15) rfl k) ?_
  show Own.Fin p e below (T1.setTop (mkF m 17 #[.val (.ref rb), .val (.int p2), .val (.ref ra), .val (.int p4), .val (.int p5)] [(.int p5), (.int p4), (.ref ra), (.int p2), (.ref rb)])) _
  refine Own.cS X1 hx hZ hown (hw _ (List.mem_of_getElem? (i := 259) rfl)) (hw _ (List.mem_of_getElem? (i := 260) rfl)) (hw _ (List.mem_of_getElem? (i := 225) rfl)) (hw _ (List.mem_of_getElem? (i := 261) rfl)) (by decide) (rm49 l Z a0 hw [] rb p2 ra p4 p5 kA kB gB n sN eN cc h0 n0 Z0 O0 SD SH SL VB VA hne gb_ hp2 hp4 hp5 hse he4 hn hcc) (by decide) (W := 0) (by decide) (argsL := [(.ref rb), (.int p2), (.ref ra), (.int p4), (.int p5)]) (rest := []) (by rw [hml]; rfl) (lenOf pd_10 rfl) rfl (Nat.le_of_eq rfl) (hb hby d46_17) e1 (by decide) (by decide) ?_
  intro T2 L2 v2 X2 hQ2
  obtain ⟨g2, rfl, N2q, K2q, V2, hU2⟩ := hQ2
  have N2 := Fr.app N1 N2q
  have f3 := VA.keep K2q (ninS hne nin0)
  have Z2 : n0 ≤ T2.heap.size := Nat.le_trans Z0 K2q.1
  have KK2 := (Keep.refl h0 [rb]).trans K2q (allS (Or.inl (List.mem_cons_self ..)) all0)
  have O2 := O0.keep K2q (allS gb_ all0)
  show Own.Fin p e below (T2.setTop (mkF m 20 #[.val (.ref rb), .val (.int p2), .val (.ref ra), .val (.int p4), .val (.int p5)] [])) _
  refine Own.retV X2 hx Bd.notSynchronized Bd.returns (hb hby d46_20) (by decide) (by decide) ?_
  exact ⟨g2, rfl, N2, KK2, V2, hU2⟩
def F_isl (co : Int32) : Int32 := if co = (0 : Int32) then 1 else 0
theorem d16_0 : decode jdk_68_method_68_code 0 = .ok (.getstatic 18, 3) := by decide +kernel
theorem d16_3 : decode jdk_68_method_68_code 3 = .ok (.ifCond .eq 14, 3) := by decide +kernel
theorem d16_6 : decode jdk_68_method_68_code 6 = .ok (.aload_n 0, 1) := by decide +kernel
theorem d16_7 : decode jdk_68_method_68_code 7 = .ok (.getfield 22, 3) := by decide +kernel
theorem d16_10 : decode jdk_68_method_68_code 10 = .ok (.ifCond .ne 7, 3) := by decide +kernel
theorem d16_13 : decode jdk_68_method_68_code 13 = .ok (.iconst 1, 1) := by decide +kernel
theorem d16_14 : decode jdk_68_method_68_code 14 = .ok (.goto 4, 3) := by decide +kernel
theorem d16_17 : decode jdk_68_method_68_code 17 = .ok (.iconst 0, 1) := by decide +kernel
theorem d16_18 : decode jdk_68_method_68_code 18 = .ok (.ireturn, 1) := by decide +kernel
theorem pn_16 : plainName "java/lang/AbstractStringBuilder" = true := by first | (simp [plainName, overriddenIn]; done) | decide +kernel
theorem ef_16 (m : MethodId) (oa : Addr)  : entryFrame m #[(.ref oa)] 1 = mkF m 0 #[.val (.ref oa)] [] := by first | (simp [entryFrame, mkF, argsToLocals, Value.category]; done) | rfl
def Q16 (Z : State) (oa : Addr) (cs co : Int32) (h0 : Heap) (n0 : Nat) : Option Value → Heap → List Loc → Prop := fun v h L => v = some (.int (F_isl co)) ∧ Fr n0 L ∧ h = h0
set_option maxRecDepth 65536 in
set_option maxHeartbeats 40000000 in
theorem rm16 (l : Launch) (Z : State) (a0 : Array Value) (hw : ∀ d ∈ tables_1, d.before a0 Z = true) (ws : List Jvm.Cond) (oa : Addr) (cs co : Int32) (h0 : Heap) (n0 : Nat) (Z0 : n0 ≤ h0.size) (O0 : Old Z n0 h0) (SC : Sta Z Z.heap "java/lang/String" "COMPACT_STRINGS" "Z" (.int cs)) (hcs : ¬ cs = (0 : Int32)) (F_coder : Fld Z h0 oa "java/lang/AbstractStringBuilder" "coder" "B" (.int co)) :
    MetFree l (⟨"java/lang/AbstractStringBuilder", "isLatin1", "()Z"⟩ : MethodName) (head1 (Jvm.Cond.code (⟨"java/lang/AbstractStringBuilder", "isLatin1", "()Z"⟩ : MethodName) jdk_68_method_68_code 1 (some .boolean) :: ws) ({ frames := 0, cells := 0, slots := 0, locals := 0 } : Room)) (fun a U => a = #[(.ref oa)] ∧ Z.Warmed39 U.vm ∧ U.heap = h0) (fun _ _ _ _ _ => True) (fun _ U o U' => ∃ v L, o = .returned v ∧ (Q16 Z oa cs co h0 n0) v U'.heap L ∧ FrameEnd U o U' L ({ frames := 0, cells := 0, slots := 0, locals := 0 } : Room).cells ({ frames := 0, cells := 0, slots := 0, locals := 0 } : Room).slots) := by
  refine MetFree.of_bodySF (plainFor_of_name pn_16) hisR ?_
  intro p e s m args below meth c s₁ Bd hml0 hP hK
  obtain ⟨rfl, hZ, hh⟩ := hP
  have hx := Bd.exec
  have hby := Bd.bytes
  have hml : c.maxLocals = 1 := hml0
  have hown : s.vm.findClass "java/lang/AbstractStringBuilder" = some m.cls := findClass_of_methodNamed Bd.named
  have hnm := (name_of_methodNamed Bd.named Bd.method).1
  have X0 : Stand p l e ({ frames := 0, cells := 0, slots := 0, locals := 0 } : Room) s m #[(.ref oa)] below meth c s₁ [] 0 0 := Stand.of_body Bd
  have e0 : s₁.heap = h0 := by rw [← hh, Bd.state]; rfl
  have N0 := Fr.nil n0
  show Own.Fin p e below _ (Own.Post s (Q16 Z oa cs co h0 n0) ({ frames := 0, cells := 0, slots := 0, locals := 0 } : Room).cells ({ frames := 0, cells := 0, slots := 0, locals := 0 } : Room).slots)
  refine Own.start (ef_16 m oa) ?_
  show Own.Fin p e below (s₁.setTop (mkF m 0 #[.val (.ref oa)] [])) _
  obtain ⟨T1, X1, e1, st1⟩ := getS2 X0 hx hZ hown (host := "") (Or.inl (hw _ (List.mem_of_getElem? (i := 75) rfl))) Via.refl e0 (SC.ext O0.2) (g := (mkF m 0 #[.val (.ref oa)] [])) rfl (hb hby d16_0)
  refine Own.go st1 ?_
  show Own.Fin p e below (T1.setTop (mkF m 3 #[.val (.ref oa)] [(.int cs)])) _
  have hc3_1 : ¬ (cs = (0 : Int32)) := hcs
  refine Own.go (fun t k => XS.ifNo X1.here hx rfl (hb hby d16_3) rfl ((if0 _ _).trans (feq hc3_1).1) k) ?_
  show Own.Fin p e below (T1.setTop (mkF m 6 #[.val (.ref oa)] [])) _
  refine Own.go (fun t k => XS.aloadN X1.here hx rfl (hb hby d16_6) rfl rfl k) ?_
  show Own.Fin p e below (T1.setTop (mkF m 7 #[.val (.ref oa)] [(.ref oa)])) _
  obtain ⟨T3, X3, e3, st3⟩ := getF X1 hx hZ hown (host := "") (Or.inl (hw _ (List.mem_of_getElem? (i := 78) rfl))) Via.refl e1 F_coder (g := (mkF m 7 #[.val (.ref oa)] [(.ref oa)])) rfl rfl (hb hby d16_7)
  refine Own.go st3 ?_
  show Own.Fin p e below (T3.setTop (mkF m 10 #[.val (.ref oa)] [(.int co)])) _
  by_cases hc10_3 : co = (0 : Int32)
  · skip
    refine Own.go (fun t k => XS.ifNo X3.here hx rfl (hb hby d16_10) rfl ((if0 _ _).trans (teq hc10_3).2) k) ?_
    show Own.Fin p e below (T3.setTop (mkF m 13 #[.val (.ref oa)] [])) _
    refine Own.go (fun t k => XS.iconst X3.here hx rfl (hb hby d16_13) k) ?_
    show Own.Fin p e below (T3.setTop (mkF m 14 #[.val (.ref oa)] [(.int (1 : Int32))])) _
    refine Own.go (fun t k => XS.goto X3.here hx rfl (pc0 := 14) (pc' := 18) rfl (hb hby d16_14) (by decide) (by decide) k) ?_
    show Own.Fin p e below (T3.setTop (mkF m 18 #[.val (.ref oa)] [(.int (1 : Int32))])) _
    refine Own.retN X3 hx Bd.notSynchronized (t := .boolean) Bd.returns (by simp) (hb hby d16_18) (by decide) (by decide) ?_
    exact ⟨by rw [show nar .boolean (1 : Int32) = F_isl co by rw [F_isl, if_pos hc10_3]; rfl], N0, e3⟩
  · skip
    refine Own.go (fun t k => XS.ifYes X3.here hx rfl (pc0 := 10) (pc' := 17) rfl (hb hby d16_10) rfl ((if0 _ _).trans (feq hc10_3).2) (by decide) (by decide) k) ?_
    show Own.Fin p e below (T3.setTop (mkF m 17 #[.val (.ref oa)] [])) _
    refine Own.go (fun t k => XS.iconst X3.here hx rfl (hb hby d16_17) k) ?_
    show Own.Fin p e below (T3.setTop (mkF m 18 #[.val (.ref oa)] [(.int (0 : Int32))])) _
    refine Own.retN X3 hx Bd.notSynchronized (t := .boolean) Bd.returns (by simp) (hb hby d16_18) (by decide) (by decide) ?_
    exact ⟨by rw [show nar .boolean (0 : Int32) = F_isl co by rw [F_isl, if_neg hc10_3]; rfl], N0, e3⟩
theorem d24_0 : decode jdk_68_method_6_code 0 = .ok (.aload_n 0, 1) := by decide +kernel
theorem d24_1 : decode jdk_68_method_6_code 1 = .ok (.getfield 79, 3) := by decide +kernel
theorem d24_4 : decode jdk_68_method_6_code 4 = .ok (.ireturn, 1) := by decide +kernel
theorem pn_24 : plainName "java/lang/AbstractStringBuilder" = true := by first | (simp [plainName, overriddenIn]; done) | decide +kernel
theorem ef_24 (m : MethodId) (oa : Addr)  : entryFrame m #[(.ref oa)] 1 = mkF m 0 #[.val (.ref oa)] [] := by first | (simp [entryFrame, mkF, argsToLocals, Value.category]; done) | rfl
def Q24 (Z : State) (oa : Addr) (ct : Int32) (h0 : Heap) (n0 : Nat) : Option Value → Heap → List Loc → Prop := fun v h L => v = some (.int ct) ∧ Fr n0 L ∧ h = h0
set_option maxRecDepth 65536 in
set_option maxHeartbeats 40000000 in
theorem rm24 (l : Launch) (Z : State) (a0 : Array Value) (hw : ∀ d ∈ tables_1, d.before a0 Z = true) (ws : List Jvm.Cond) (oa : Addr) (ct : Int32) (h0 : Heap) (n0 : Nat) (Z0 : n0 ≤ h0.size) (F_count : Fld Z h0 oa "java/lang/AbstractStringBuilder" "count" "I" (.int ct)) :
    MetFree l (⟨"java/lang/AbstractStringBuilder", "length", "()I"⟩ : MethodName) (head1 (Jvm.Cond.code (⟨"java/lang/AbstractStringBuilder", "length", "()I"⟩ : MethodName) jdk_68_method_6_code 1 (some .int) :: ws) ({ frames := 0, cells := 0, slots := 0, locals := 0 } : Room)) (fun a U => a = #[(.ref oa)] ∧ Z.Warmed39 U.vm ∧ U.heap = h0) (fun _ _ _ _ _ => True) (fun _ U o U' => ∃ v L, o = .returned v ∧ (Q24 Z oa ct h0 n0) v U'.heap L ∧ FrameEnd U o U' L ({ frames := 0, cells := 0, slots := 0, locals := 0 } : Room).cells ({ frames := 0, cells := 0, slots := 0, locals := 0 } : Room).slots) := by
  refine MetFree.of_bodySF (plainFor_of_name pn_24) hisR ?_
  intro p e s m args below meth c s₁ Bd hml0 hP hK
  obtain ⟨rfl, hZ, hh⟩ := hP
  have hx := Bd.exec
  have hby := Bd.bytes
  have hml : c.maxLocals = 1 := hml0
  have hown : s.vm.findClass "java/lang/AbstractStringBuilder" = some m.cls := findClass_of_methodNamed Bd.named
  have hnm := (name_of_methodNamed Bd.named Bd.method).1
  have X0 : Stand p l e ({ frames := 0, cells := 0, slots := 0, locals := 0 } : Room) s m #[(.ref oa)] below meth c s₁ [] 0 0 := Stand.of_body Bd
  have e0 : s₁.heap = h0 := by rw [← hh, Bd.state]; rfl
  have N0 := Fr.nil n0
  show Own.Fin p e below _ (Own.Post s (Q24 Z oa ct h0 n0) ({ frames := 0, cells := 0, slots := 0, locals := 0 } : Room).cells ({ frames := 0, cells := 0, slots := 0, locals := 0 } : Room).slots)
  refine Own.start (ef_24 m oa) ?_
  show Own.Fin p e below (s₁.setTop (mkF m 0 #[.val (.ref oa)] [])) _
  refine Own.go (fun t k => XS.aloadN X0.here hx rfl (hb hby d24_0) rfl rfl k) ?_
  show Own.Fin p e below (s₁.setTop (mkF m 1 #[.val (.ref oa)] [(.ref oa)])) _
  obtain ⟨T1, X1, e1, st1⟩ := getF X0 hx hZ hown (host := "") (Or.inl (hw _ (List.mem_of_getElem? (i := 109) rfl))) Via.refl e0 F_count (g := (mkF m 1 #[.val (.ref oa)] [(.ref oa)])) rfl rfl (hb hby d24_1)
  refine Own.go st1 ?_
  show Own.Fin p e below (T1.setTop (mkF m 4 #[.val (.ref oa)] [(.int ct)])) _
  refine Own.retI X1 hx Bd.notSynchronized Bd.returns (hb hby d24_4) (by decide) (by decide) ?_
  exact ⟨rfl, N0, e1⟩
theorem d23_0 : decode jdk_67_method_93_code 0 = .ok (.aload_n 0, 1) := by decide +kernel
theorem d23_1 : decode jdk_67_method_93_code 1 = .ok (.invokespecial 343, 3) := by decide +kernel
theorem d23_4 : decode jdk_67_method_93_code 4 = .ok (.ireturn, 1) := by decide +kernel
theorem pd_11 : parseMethodDescriptor "()I" = some ⟨[], some .int⟩ := by decide +kernel
theorem pn_23 : plainName "java/lang/StringBuilder" = true := by first | (simp [plainName, overriddenIn]; done) | decide +kernel
theorem ef_23 (m : MethodId) (oa : Addr)  : entryFrame m #[(.ref oa)] 1 = mkF m 0 #[.val (.ref oa)] [] := by first | (simp [entryFrame, mkF, argsToLocals, Value.category]; done) | rfl
def Q23 (Z : State) (oa : Addr) (ct : Int32) (h0 : Heap) (n0 : Nat) : Option Value → Heap → List Loc → Prop := fun v h L => v = some (.int ct) ∧ Fr n0 L ∧ h = h0
set_option maxRecDepth 65536 in
set_option maxHeartbeats 40000000 in
theorem rm23 (l : Launch) (Z : State) (a0 : Array Value) (hw : ∀ d ∈ tables_1, d.before a0 Z = true) (ws : List Jvm.Cond) (oa : Addr) (ct : Int32) (h0 : Heap) (n0 : Nat) (Z0 : n0 ≤ h0.size) (E0 : Exa Z h0 oa "java/lang/StringBuilder") (F_count : Fld Z h0 oa "java/lang/AbstractStringBuilder" "count" "I" (.int ct)) :
    MetFree l (⟨"java/lang/StringBuilder", "length", "()I"⟩ : MethodName) (head1 (Jvm.Cond.code (⟨"java/lang/StringBuilder", "length", "()I"⟩ : MethodName) jdk_67_method_93_code 1 (some .int) :: ws) ({ frames := 1, cells := 0, slots := 0, locals := 12 } : Room)) (fun a U => a = #[(.ref oa)] ∧ Z.Warmed39 U.vm ∧ U.heap = h0) (fun _ _ _ _ _ => True) (fun _ U o U' => ∃ v L, o = .returned v ∧ (Q23 Z oa ct h0 n0) v U'.heap L ∧ FrameEnd U o U' L ({ frames := 1, cells := 0, slots := 0, locals := 12 } : Room).cells ({ frames := 1, cells := 0, slots := 0, locals := 12 } : Room).slots) := by
  refine MetFree.of_bodySF (plainFor_of_name pn_23) hisR ?_
  intro p e s m args below meth c s₁ Bd hml0 hP hK
  obtain ⟨rfl, hZ, hh⟩ := hP
  have hx := Bd.exec
  have hby := Bd.bytes
  have hml : c.maxLocals = 1 := hml0
  have hown : s.vm.findClass "java/lang/StringBuilder" = some m.cls := findClass_of_methodNamed Bd.named
  have hnm := (name_of_methodNamed Bd.named Bd.method).1
  have X0 : Stand p l e ({ frames := 1, cells := 0, slots := 0, locals := 12 } : Room) s m #[(.ref oa)] below meth c s₁ [] 0 0 := Stand.of_body Bd
  have e0 : s₁.heap = h0 := by rw [← hh, Bd.state]; rfl
  have N0 := Fr.nil n0
  show Own.Fin p e below _ (Own.Post s (Q23 Z oa ct h0 n0) ({ frames := 1, cells := 0, slots := 0, locals := 12 } : Room).cells ({ frames := 1, cells := 0, slots := 0, locals := 12 } : Room).slots)
  refine Own.start (ef_23 m oa) ?_
  show Own.Fin p e below (s₁.setTop (mkF m 0 #[.val (.ref oa)] [])) _
  refine Own.go (fun t k => XS.aloadN X0.here hx rfl (hb hby d23_0) rfl rfl k) ?_
  show Own.Fin p e below (s₁.setTop (mkF m 1 #[.val (.ref oa)] [(.ref oa)])) _
  refine own_cU X0 hx hZ hown (hw _ (List.mem_of_getElem? (i := 160) rfl)) (hw _ (List.mem_of_getElem? (i := 114) rfl)) rfl (hw _ (List.mem_of_getElem? (i := 156) rfl)) (hw _ (List.mem_of_getElem? (i := 100) rfl)) (by decide) (hw _ (List.mem_of_getElem? (i := 72) rfl)) (hw _ (List.mem_of_getElem? (i := 161) rfl)) (by decide) (rm24 l Z a0 hw [] oa ct h0 n0 Z0 F_count) (by decide) (W := 0) (by decide) (argsL := []) (rest := []) (Ins.self E0) (by rw [hml]; rfl) (lenOf pd_11 rfl) rfl (Nat.le_of_eq rfl) (hb hby d23_1) e0 (by decide) (by decide) ?_
  intro T1 L1 v1 X1 hQ1
  obtain ⟨rfl, N1q, e1⟩ := hQ1
  have N1 := Fr.app N0 N1q
  show Own.Fin p e below (T1.setTop (mkF m 4 #[.val (.ref oa)] [(.int ct)])) _
  refine Own.retI X1 hx Bd.notSynchronized Bd.returns (hb hby d23_4) (by decide) (by decide) ?_
  exact ⟨rfl, N1, e1⟩
theorem d22_0 : decode jdk_68_method_64_code 0 = .ok (.aload_n 0, 1) := by decide +kernel
theorem d22_1 : decode jdk_68_method_64_code 1 = .ok (.getfield 15, 3) := by decide +kernel
theorem d22_4 : decode jdk_68_method_64_code 4 = .ok (.areturn, 1) := by decide +kernel
theorem pn_22 : plainName "java/lang/AbstractStringBuilder" = true := by first | (simp [plainName, overriddenIn]; done) | decide +kernel
theorem ef_22 (m : MethodId) (oa : Addr)  : entryFrame m #[(.ref oa)] 1 = mkF m 0 #[.val (.ref oa)] [] := by first | (simp [entryFrame, mkF, argsToLocals, Value.category]; done) | rfl
def Q22 (Z : State) (oa : Addr) (va : Addr) (h0 : Heap) (n0 : Nat) : Option Value → Heap → List Loc → Prop := fun v h L => v = some (.ref va) ∧ Fr n0 L ∧ h = h0
set_option maxRecDepth 65536 in
set_option maxHeartbeats 40000000 in
theorem rm22 (l : Launch) (Z : State) (a0 : Array Value) (hw : ∀ d ∈ tables_1, d.before a0 Z = true) (ws : List Jvm.Cond) (oa : Addr) (va : Addr) (h0 : Heap) (n0 : Nat) (Z0 : n0 ≤ h0.size) (F_value : Fld Z h0 oa "java/lang/AbstractStringBuilder" "value" "[B" (.ref va)) :
    MetFree l (⟨"java/lang/AbstractStringBuilder", "getValue", "()[B"⟩ : MethodName) (head1 (Jvm.Cond.code (⟨"java/lang/AbstractStringBuilder", "getValue", "()[B"⟩ : MethodName) jdk_68_method_64_code 1 (some (.array .byte)) :: ws) ({ frames := 0, cells := 0, slots := 0, locals := 0 } : Room)) (fun a U => a = #[(.ref oa)] ∧ Z.Warmed39 U.vm ∧ U.heap = h0) (fun _ _ _ _ _ => True) (fun _ U o U' => ∃ v L, o = .returned v ∧ (Q22 Z oa va h0 n0) v U'.heap L ∧ FrameEnd U o U' L ({ frames := 0, cells := 0, slots := 0, locals := 0 } : Room).cells ({ frames := 0, cells := 0, slots := 0, locals := 0 } : Room).slots) := by
  refine MetFree.of_bodySF (plainFor_of_name pn_22) hisR ?_
  intro p e s m args below meth c s₁ Bd hml0 hP hK
  obtain ⟨rfl, hZ, hh⟩ := hP
  have hx := Bd.exec
  have hby := Bd.bytes
  have hml : c.maxLocals = 1 := hml0
  have hown : s.vm.findClass "java/lang/AbstractStringBuilder" = some m.cls := findClass_of_methodNamed Bd.named
  have hnm := (name_of_methodNamed Bd.named Bd.method).1
  have X0 : Stand p l e ({ frames := 0, cells := 0, slots := 0, locals := 0 } : Room) s m #[(.ref oa)] below meth c s₁ [] 0 0 := Stand.of_body Bd
  have e0 : s₁.heap = h0 := by rw [← hh, Bd.state]; rfl
  have N0 := Fr.nil n0
  show Own.Fin p e below _ (Own.Post s (Q22 Z oa va h0 n0) ({ frames := 0, cells := 0, slots := 0, locals := 0 } : Room).cells ({ frames := 0, cells := 0, slots := 0, locals := 0 } : Room).slots)
  refine Own.start (ef_22 m oa) ?_
  show Own.Fin p e below (s₁.setTop (mkF m 0 #[.val (.ref oa)] [])) _
  refine Own.go (fun t k => XS.aloadN X0.here hx rfl (hb hby d22_0) rfl rfl k) ?_
  show Own.Fin p e below (s₁.setTop (mkF m 1 #[.val (.ref oa)] [(.ref oa)])) _
  obtain ⟨T1, X1, e1, st1⟩ := getF X0 hx hZ hown (host := "") (Or.inl (hw _ (List.mem_of_getElem? (i := 76) rfl))) Via.refl e0 F_value (g := (mkF m 1 #[.val (.ref oa)] [(.ref oa)])) rfl rfl (hb hby d22_1)
  refine Own.go st1 ?_
  show Own.Fin p e below (T1.setTop (mkF m 4 #[.val (.ref oa)] [(.ref va)])) _
  refine Own.retR X1 hx Bd.notSynchronized Bd.returns rfl rfl (hb hby d22_4) (by decide) (by decide) ?_
  exact ⟨rfl, N0, e1⟩
theorem d14_0 : decode jdk_68_method_9_code 0 = .ok (.aload_n 0, 1) := by decide +kernel
theorem d14_1 : decode jdk_68_method_9_code 1 = .ok (.getfield 15, 3) := by decide +kernel
theorem d14_4 : decode jdk_68_method_9_code 4 = .ok (.arraylength, 1) := by decide +kernel
theorem d14_5 : decode jdk_68_method_9_code 5 = .ok (.aload_n 0, 1) := by decide +kernel
theorem d14_6 : decode jdk_68_method_9_code 6 = .ok (.getfield 22, 3) := by decide +kernel
theorem d14_9 : decode jdk_68_method_9_code 9 = .ok (.ishr, 1) := by decide +kernel
theorem d14_10 : decode jdk_68_method_9_code 10 = .ok (.istore_n 2, 1) := by decide +kernel
theorem d14_11 : decode jdk_68_method_9_code 11 = .ok (.iload_n 1, 1) := by decide +kernel
theorem d14_12 : decode jdk_68_method_9_code 12 = .ok (.iload_n 2, 1) := by decide +kernel
theorem d14_13 : decode jdk_68_method_9_code 13 = .ok (.isub, 1) := by decide +kernel
theorem d14_14 : decode jdk_68_method_9_code 14 = .ok (.ifCond .le 24, 3) := by decide +kernel
theorem d14_38 : decode jdk_68_method_9_code 38 = .ok (.return_, 1) := by decide +kernel
theorem pn_14 : plainName "java/lang/AbstractStringBuilder" = true := by first | (simp [plainName, overriddenIn]; done) | decide +kernel
theorem ef_14 (m : MethodId) (oa : Addr) (p2 : Int32)  : entryFrame m #[(.ref oa), (.int p2)] 3 = mkF m 0 #[.val (.ref oa), .val (.int p2), .unset] [] := by first | (simp [entryFrame, mkF, argsToLocals, Value.category]; done) | rfl
def Q14 (Z : State) (oa : Addr) (p2 : Int32) (va : Addr) (co : Int32) (kD : ClassId) (zv : Int32) (N : Nat) (g : Nat → Value) (h0 : Heap) (n0 : Nat) : Option Value → Heap → List Loc → Prop := fun v h L => v = none ∧ Fr n0 L ∧ h = h0
set_option maxRecDepth 65536 in
set_option maxHeartbeats 40000000 in
theorem rm14 (l : Launch) (Z : State) (a0 : Array Value) (hw : ∀ d ∈ tables_1, d.before a0 Z = true) (ws : List Jvm.Cond) (oa : Addr) (p2 : Int32) (va : Addr) (co : Int32) (kD : ClassId) (zv : Int32) (N : Nat) (g : Nat → Value) (h0 : Heap) (n0 : Nat) (Z0 : n0 ≤ h0.size) (F_value : Fld Z h0 oa "java/lang/AbstractStringBuilder" "value" "[B" (.ref va)) (F_coder : Fld Z h0 oa "java/lang/AbstractStringBuilder" "coder" "B" (.int co)) (V0 : Arv Z h0 va kD .byte zv (tab N g) (.int (0 : Int32))) (hp : ¬ (0 : Int32) < (p2 - (zv >>> (co &&& 31)))) :
    MetFree l (⟨"java/lang/AbstractStringBuilder", "ensureCapacityInternal", "(I)V"⟩ : MethodName) (head1 (Jvm.Cond.code (⟨"java/lang/AbstractStringBuilder", "ensureCapacityInternal", "(I)V"⟩ : MethodName) jdk_68_method_9_code 3 none :: ws) ({ frames := 0, cells := 0, slots := 0, locals := 0 } : Room)) (fun a U => a = #[(.ref oa), (.int p2)] ∧ Z.Warmed39 U.vm ∧ U.heap = h0) (fun _ _ _ _ _ => True) (fun _ U o U' => ∃ v L, o = .returned v ∧ (Q14 Z oa p2 va co kD zv N g h0 n0) v U'.heap L ∧ FrameEnd U o U' L ({ frames := 0, cells := 0, slots := 0, locals := 0 } : Room).cells ({ frames := 0, cells := 0, slots := 0, locals := 0 } : Room).slots) := by
  refine MetFree.of_bodySF (plainFor_of_name pn_14) hisR ?_
  intro p e s m args below meth c s₁ Bd hml0 hP hK
  obtain ⟨rfl, hZ, hh⟩ := hP
  have hx := Bd.exec
  have hby := Bd.bytes
  have hml : c.maxLocals = 3 := hml0
  have hown : s.vm.findClass "java/lang/AbstractStringBuilder" = some m.cls := findClass_of_methodNamed Bd.named
  have hnm := (name_of_methodNamed Bd.named Bd.method).1
  have X0 : Stand p l e ({ frames := 0, cells := 0, slots := 0, locals := 0 } : Room) s m #[(.ref oa), (.int p2)] below meth c s₁ [] 0 0 := Stand.of_body Bd
  have e0 : s₁.heap = h0 := by rw [← hh, Bd.state]; rfl
  have N0 := Fr.nil n0
  show Own.Fin p e below _ (Own.Post s (Q14 Z oa p2 va co kD zv N g h0 n0) ({ frames := 0, cells := 0, slots := 0, locals := 0 } : Room).cells ({ frames := 0, cells := 0, slots := 0, locals := 0 } : Room).slots)
  refine Own.start (ef_14 m oa p2) ?_
  show Own.Fin p e below (s₁.setTop (mkF m 0 #[.val (.ref oa), .val (.int p2), .unset] [])) _
  refine Own.go (fun t k => XS.aloadN X0.here hx rfl (hb hby d14_0) rfl rfl k) ?_
  show Own.Fin p e below (s₁.setTop (mkF m 1 #[.val (.ref oa), .val (.int p2), .unset] [(.ref oa)])) _
  obtain ⟨T1, X1, e1, st1⟩ := getF X0 hx hZ hown (host := "") (Or.inl (hw _ (List.mem_of_getElem? (i := 76) rfl))) Via.refl e0 F_value (g := (mkF m 1 #[.val (.ref oa), .val (.int p2), .unset] [(.ref oa)])) rfl rfl (hb hby d14_1)
  refine Own.go st1 ?_
  show Own.Fin p e below (T1.setTop (mkF m 4 #[.val (.ref oa), .val (.int p2), .unset] [(.ref va)])) _
  refine Own.alen X1 hx hZ e1 V0 (hb hby d14_4) ?_
  show Own.Fin p e below (T1.setTop (mkF m 5 #[.val (.ref oa), .val (.int p2), .unset] [(.int zv)])) _
  refine Own.go (fun t k => XS.aloadN X1.here hx rfl (hb hby d14_5) rfl rfl k) ?_
  show Own.Fin p e below (T1.setTop (mkF m 6 #[.val (.ref oa), .val (.int p2), .unset] [(.ref oa), (.int zv)])) _
  obtain ⟨T2, X2, e2, st2⟩ := getF X1 hx hZ hown (host := "") (Or.inl (hw _ (List.mem_of_getElem? (i := 78) rfl))) Via.refl e1 F_coder (g := (mkF m 6 #[.val (.ref oa), .val (.int p2), .unset] [(.ref oa), (.int zv)])) rfl rfl (hb hby d14_6)
  refine Own.go st2 ?_
  show Own.Fin p e below (T2.setTop (mkF m 9 #[.val (.ref oa), .val (.int p2), .unset] [(.int co), (.int zv)])) _
  refine Own.go (fun t k => XS.ishr X2.here hx rfl (hb hby d14_9) rfl k) ?_
  show Own.Fin p e below (T2.setTop (mkF m 10 #[.val (.ref oa), .val (.int p2), .unset] [(.int ((zv >>> (co &&& 31))))])) _
  refine Own.go (fun t k => XS.istoreN X2.here hx rfl (hb hby d14_10) rfl (l' := #[.val (.ref oa), .val (.int p2), .val (.int ((zv >>> (co &&& 31))))]) rfl k) ?_
  show Own.Fin p e below (T2.setTop (mkF m 11 #[.val (.ref oa), .val (.int p2), .val (.int ((zv >>> (co &&& 31))))] [])) _
  refine Own.go (fun t k => XS.iloadN X2.here hx rfl (hb hby d14_11) rfl k) ?_
  show Own.Fin p e below (T2.setTop (mkF m 12 #[.val (.ref oa), .val (.int p2), .val (.int ((zv >>> (co &&& 31))))] [(.int p2)])) _
  refine Own.go (fun t k => XS.iloadN X2.here hx rfl (hb hby d14_12) rfl k) ?_
  show Own.Fin p e below (T2.setTop (mkF m 13 #[.val (.ref oa), .val (.int p2), .val (.int ((zv >>> (co &&& 31))))] [(.int ((zv >>> (co &&& 31)))), (.int p2)])) _
  refine Own.go (fun t k => XS.isub X2.here hx rfl (hb hby d14_13) rfl k) ?_
  show Own.Fin p e below (T2.setTop (mkF m 14 #[.val (.ref oa), .val (.int p2), .val (.int ((zv >>> (co &&& 31))))] [(.int (p2 - ((zv >>> (co &&& 31)))))])) _
  have hc14_2 : ¬ ((0 : Int32) < (p2 - ((zv >>> (co &&& 31))))) := hp
  refine Own.go (fun t k => XS.ifYes X2.here hx rfl (pc0 := 14) (pc' := 38) rfl (hb hby d14_14) rfl ((if0 _ _).trans (flt hc14_2).2.2.2) (by decide) (by decide) k) ?_
  show Own.Fin p e below (T2.setTop (mkF m 38 #[.val (.ref oa), .val (.int p2), .val (.int ((zv >>> (co &&& 31))))] [])) _
  refine Own.retV X2 hx Bd.notSynchronized Bd.returns (hb hby d14_38) (by decide) (by decide) ?_
  exact ⟨rfl, N0, e2⟩
theorem d37_0 : decode jdk_68_method_11_code 0 = .ok (.aload_n 0, 1) := by decide +kernel
theorem d37_1 : decode jdk_68_method_11_code 1 = .ok (.invokevirtual 83, 3) := by decide +kernel
theorem d37_4 : decode jdk_68_method_11_code 4 = .ok (.ifCond .ne 4, 3) := by decide +kernel
theorem d37_8 : decode jdk_68_method_11_code 8 = .ok (.aload_n 0, 1) := by decide +kernel
theorem d37_9 : decode jdk_68_method_11_code 9 = .ok (.getfield 15, 3) := by decide +kernel
theorem d37_12 : decode jdk_68_method_11_code 12 = .ok (.arraylength, 1) := by decide +kernel
theorem d37_13 : decode jdk_68_method_11_code 13 = .ok (.invokestatic 26, 3) := by decide +kernel
theorem d37_16 : decode jdk_68_method_11_code 16 = .ok (.astore_n 1, 1) := by decide +kernel
theorem d37_17 : decode jdk_68_method_11_code 17 = .ok (.aload_n 0, 1) := by decide +kernel
theorem d37_18 : decode jdk_68_method_11_code 18 = .ok (.getfield 15, 3) := by decide +kernel
theorem d37_21 : decode jdk_68_method_11_code 21 = .ok (.iconst 0, 1) := by decide +kernel
theorem d37_22 : decode jdk_68_method_11_code 22 = .ok (.aload_n 1, 1) := by decide +kernel
theorem d37_23 : decode jdk_68_method_11_code 23 = .ok (.iconst 0, 1) := by decide +kernel
theorem d37_24 : decode jdk_68_method_11_code 24 = .ok (.aload_n 0, 1) := by decide +kernel
theorem d37_25 : decode jdk_68_method_11_code 25 = .ok (.getfield 79, 3) := by decide +kernel
theorem d37_28 : decode jdk_68_method_11_code 28 = .ok (.invokestatic 125, 3) := by decide +kernel
theorem d37_31 : decode jdk_68_method_11_code 31 = .ok (.aload_n 0, 1) := by decide +kernel
theorem d37_32 : decode jdk_68_method_11_code 32 = .ok (.aload_n 1, 1) := by decide +kernel
theorem d37_33 : decode jdk_68_method_11_code 33 = .ok (.putfield 15, 3) := by decide +kernel
theorem d37_36 : decode jdk_68_method_11_code 36 = .ok (.aload_n 0, 1) := by decide +kernel
theorem d37_37 : decode jdk_68_method_11_code 37 = .ok (.iconst 1, 1) := by decide +kernel
theorem d37_38 : decode jdk_68_method_11_code 38 = .ok (.putfield 22, 3) := by decide +kernel
theorem d37_41 : decode jdk_68_method_11_code 41 = .ok (.return_, 1) := by decide +kernel
theorem pd_12 : parseMethodDescriptor "()Z" = some ⟨[], some .boolean⟩ := by decide +kernel
theorem pd_13 : parseMethodDescriptor "(I)[B" = some ⟨[.int], some (.array .byte)⟩ := by decide +kernel
theorem pn_37 : plainName "java/lang/AbstractStringBuilder" = true := by first | (simp [plainName, overriddenIn]; done) | decide +kernel
theorem ef_37 (m : MethodId) (oa : Addr)  : entryFrame m #[(.ref oa)] 2 = mkF m 0 #[.val (.ref oa), .unset] [] := by first | (simp [entryFrame, mkF, argsToLocals, Value.category]; done) | rfl
def Q37 (Z : State) (oa : Addr) (cs : Int32) (fs_ : Value) (va : Addr) (kA : ClassId) (gA : Nat → Value) (n : Nat) (ch : Nat → Nat) (h0 : Heap) (n0 : Nat) : Option Value → Heap → List Loc → Prop := fun v h L => ∃ (b : Addr) (k : ClassId) (g' : Nat → Value), v = none ∧ Fr n0 L ∧ Keep h0 h [oa] ∧ n0 ≤ b ∧ b = h0.size ∧ Fld Z h oa "java/lang/AbstractStringBuilder" "value" "[B" (.ref b) ∧ Fld Z h oa "java/lang/AbstractStringBuilder" "coder" "B" (.int (1 : Int32)) ∧ Fld Z h oa "java/lang/AbstractStringBuilder" "count" "I" (.int (Int32.ofNat n)) ∧ Fld Z h oa "java/lang/AbstractStringBuilder" "maybeLatin1" "Z" (.int (0 : Int32)) ∧ Arv Z h b k .byte (32 : Int32) (tab 32 g') (.int (0 : Int32)) ∧ U16of g' ch n
set_option maxRecDepth 65536 in
set_option maxHeartbeats 40000000 in
theorem rm37 (l : Launch) (Z : State) (a0 : Array Value) (hw : ∀ d ∈ tables_1, d.before a0 Z = true) (ws : List Jvm.Cond) (oa : Addr) (cs : Int32) (fs_ : Value) (va : Addr) (kA : ClassId) (gA : Nat → Value) (n : Nat) (ch : Nat → Nat) (h0 : Heap) (n0 : Nat) (Z0 : n0 ≤ h0.size) (O0 : Old Z n0 h0) (SC : Sta Z Z.heap "java/lang/String" "COMPACT_STRINGS" "Z" (.int cs)) (SD : Sta Z Z.heap "java/lang/StringUTF16" "$assertionsDisabled" "Z" (.int (1 : Int32))) (SH : Sta Z Z.heap "java/lang/StringUTF16" "HI_BYTE_SHIFT" "I" (.int (0 : Int32))) (SL : Sta Z Z.heap "java/lang/StringUTF16" "LO_BYTE_SHIFT" "I" (.int (8 : Int32))) (SF : Sta Z Z.heap "jdk/internal/util/Preconditions" "SIOOBE_FORMATTER" "Ljava/util/function/BiFunction;" fs_) (hcs : ¬ cs = (0 : Int32)) (hc_s : fs_.category = 1) (E0 : Exa Z h0 oa "java/lang/StringBuilder") (F_value : Fld Z h0 oa "java/lang/AbstractStringBuilder" "value" "[B" (.ref va)) (F_coder : Fld Z h0 oa "java/lang/AbstractStringBuilder" "coder" "B" (.int (0 : Int32))) (F_count : Fld Z h0 oa "java/lang/AbstractStringBuilder" "count" "I" (.int (Int32.ofNat n))) (F_maybeLatin1 : Fld Z h0 oa "java/lang/AbstractStringBuilder" "maybeLatin1" "Z" (.int (0 : Int32))) (VA : Arv Z h0 va kA .byte (16 : Int32) (tab 16 gA) (.int (0 : Int32))) (ga : n0 ≤ oa) (hov : oa ≠ va) (hn : n ≤ 16) (hA : ∀ i < n, gA i = .int (sb (ch i)) ∧ ch i < 256) :
    MetFree l (⟨"java/lang/AbstractStringBuilder", "inflate", "()V"⟩ : MethodName) (head1 (Jvm.Cond.code (⟨"java/lang/AbstractStringBuilder", "inflate", "()V"⟩ : MethodName) jdk_68_method_11_code 2 none :: ws) ({ frames := 5, cells := 1, slots := 32, locals := 124 } : Room)) (fun a U => a = #[(.ref oa)] ∧ Z.Warmed39 U.vm ∧ U.heap = h0) (fun _ _ _ _ _ => True) (fun _ U o U' => ∃ v L, o = .returned v ∧ (Q37 Z oa cs fs_ va kA gA n ch h0 n0) v U'.heap L ∧ FrameEnd U o U' L ({ frames := 5, cells := 1, slots := 32, locals := 124 } : Room).cells ({ frames := 5, cells := 1, slots := 32, locals := 124 } : Room).slots) := by
  refine MetFree.of_bodySF (plainFor_of_name pn_37) hisR ?_
  intro p e s m args below meth c s₁ Bd hml0 hP hK
  obtain ⟨rfl, hZ, hh⟩ := hP
  have hx := Bd.exec
  have hby := Bd.bytes
  have hml : c.maxLocals = 2 := hml0
  have hown : s.vm.findClass "java/lang/AbstractStringBuilder" = some m.cls := findClass_of_methodNamed Bd.named
  have hnm := (name_of_methodNamed Bd.named Bd.method).1
  have X0 : Stand p l e ({ frames := 5, cells := 1, slots := 32, locals := 124 } : Room) s m #[(.ref oa)] below meth c s₁ [] 0 0 := Stand.of_body Bd
  have e0 : s₁.heap = h0 := by rw [← hh, Bd.state]; rfl
  have N0 := Fr.nil n0
  show Own.Fin p e below _ (Own.Post s (Q37 Z oa cs fs_ va kA gA n ch h0 n0) ({ frames := 5, cells := 1, slots := 32, locals := 124 } : Room).cells ({ frames := 5, cells := 1, slots := 32, locals := 124 } : Room).slots)
  refine Own.start (ef_37 m oa) ?_
  show Own.Fin p e below (s₁.setTop (mkF m 0 #[.val (.ref oa), .unset] [])) _
  refine Own.go (fun t k => XS.aloadN X0.here hx rfl (hb hby d37_0) rfl rfl k) ?_
  show Own.Fin p e below (s₁.setTop (mkF m 1 #[.val (.ref oa), .unset] [(.ref oa)])) _
  refine Own.cV X0 hx hZ hown (hw _ (List.mem_of_getElem? (i := 121) rfl)) (hw _ (List.mem_of_getElem? (i := 122) rfl)) (notFace_of_selects (args := #[]) (mvT hZ (hw _ (List.mem_of_getElem? (i := 124) rfl)))) (hw _ (List.mem_of_getElem? (i := 124) rfl)) (hw _ (List.mem_of_getElem? (i := 123) rfl)) (hw _ (List.mem_of_getElem? (i := 72) rfl)) (hw _ (List.mem_of_getElem? (i := 125) rfl)) (by decide) (rm16 l Z a0 hw [] oa cs (0 : Int32) h0 n0 Z0 O0 SC hcs F_coder) (by decide) (W := 0) (by decide) (argsL := []) (rest := []) E0 (by rw [hml]; rfl) (lenOf pd_12 rfl) rfl (Nat.le_of_eq rfl) (hb hby d37_1) e0 (by decide) (by decide) ?_
  intro T1 L1 v1 X1 hQ1
  obtain ⟨rfl, N1q, e1⟩ := hQ1
  have N1 := Fr.app N0 N1q
  show Own.Fin p e below (T1.setTop (mkF m 4 #[.val (.ref oa), .unset] [(.int (F_isl (0 : Int32)))])) _
  have hc4_1 : ¬ ((F_isl (0 : Int32)) = (0 : Int32)) := by decide
  refine Own.go (fun t k => XS.ifYes X1.here hx rfl (pc0 := 4) (pc' := 8) rfl (hb hby d37_4) rfl ((if0 _ _).trans (feq hc4_1).2) (by decide) (by decide) k) ?_
  show Own.Fin p e below (T1.setTop (mkF m 8 #[.val (.ref oa), .unset] [])) _
  refine Own.go (fun t k => XS.aloadN X1.here hx rfl (hb hby d37_8) rfl rfl k) ?_
  show Own.Fin p e below (T1.setTop (mkF m 9 #[.val (.ref oa), .unset] [(.ref oa)])) _
  obtain ⟨T3, X3, e3, st3⟩ := getF X1 hx hZ hown (host := "") (Or.inl (hw _ (List.mem_of_getElem? (i := 76) rfl))) Via.refl e1 F_value (g := (mkF m 9 #[.val (.ref oa), .unset] [(.ref oa)])) rfl rfl (hb hby d37_9)
  refine Own.go st3 ?_
  show Own.Fin p e below (T3.setTop (mkF m 12 #[.val (.ref oa), .unset] [(.ref va)])) _
  refine Own.alen X3 hx hZ e3 VA (hb hby d37_12) ?_
  show Own.Fin p e below (T3.setTop (mkF m 13 #[.val (.ref oa), .unset] [(.int (16 : Int32))])) _
  refine Own.cS X3 hx hZ hown (hw _ (List.mem_of_getElem? (i := 223) rfl)) (hw _ (List.mem_of_getElem? (i := 224) rfl)) (hw _ (List.mem_of_getElem? (i := 225) rfl)) (hw _ (List.mem_of_getElem? (i := 226) rfl)) (by decide) (rm38 l Z a0 hw [] (16 : Int32) h0 n0 Z0 rfl) (by decide) (W := 0) (by decide) (argsL := [(.int (16 : Int32))]) (rest := []) (by rw [hml]; rfl) (lenOf pd_13 rfl) rfl (Nat.le_of_eq rfl) (hb hby d37_13) e3 (by decide) (by decide) ?_
  intro T4 L4 v4 X4 hQ4
  obtain ⟨b4, k4, rfl, N4q, gb4, E4, V4⟩ := hQ4
  have N4 := Fr.app N1 N4q
  obtain ⟨h4, eh4⟩ : ∃ z, z = T4.heap := ⟨_, rfl⟩
  rw [← eh4] at E4 V4
  have ge4 : n0 ≤ b4 := by rw [gb4]; exact Z0
  have sz_b4 : h0.size ≤ b4 := Nat.le_trans (Keep.refl h0 [oa]).1 (Nat.le_of_eq gb4.symm)
  have ne4_oa : oa ≠ b4 := Nat.ne_of_lt (Nat.lt_of_lt_of_le E0.lt (Nat.le_of_eq gb4.symm))
  have ne4_va : va ≠ b4 := Nat.ne_of_lt (Nat.lt_of_lt_of_le VA.lt (Nat.le_of_eq gb4.symm))
  have Z4 : n0 ≤ h4.size := Nat.le_trans Z0 E4.1
  have f5 := E0.ext E4
  have f6 := F_value.ext E4
  have f7 := F_coder.ext E4
  have f8 := F_count.ext E4
  have f9 := F_maybeLatin1.ext E4
  have f10 := VA.ext E4
  have K4 := (Keep.refl h0 [oa]).ext E4
  have O4 := O0.ext E4
  show Own.Fin p e below (T4.setTop (mkF m 16 #[.val (.ref oa), .unset] [(.ref b4)])) _
  refine Own.go (fun t k => XS.astoreN X4.here hx rfl (hb hby d37_16) rfl rfl (l' := #[.val (.ref oa), .val (.ref b4)]) rfl k) ?_
  show Own.Fin p e below (T4.setTop (mkF m 17 #[.val (.ref oa), .val (.ref b4)] [])) _
  refine Own.go (fun t k => XS.aloadN X4.here hx rfl (hb hby d37_17) rfl rfl k) ?_
  show Own.Fin p e below (T4.setTop (mkF m 18 #[.val (.ref oa), .val (.ref b4)] [(.ref oa)])) _
  obtain ⟨T11, X11, e11, st11⟩ := getF X4 hx hZ hown (host := "") (Or.inl (hw _ (List.mem_of_getElem? (i := 76) rfl))) Via.refl eh4.symm f6 (g := (mkF m 18 #[.val (.ref oa), .val (.ref b4)] [(.ref oa)])) rfl rfl (hb hby d37_18)
  refine Own.go st11 ?_
  show Own.Fin p e below (T11.setTop (mkF m 21 #[.val (.ref oa), .val (.ref b4)] [(.ref va)])) _
  refine Own.go (fun t k => XS.iconst X11.here hx rfl (hb hby d37_21) k) ?_
  show Own.Fin p e below (T11.setTop (mkF m 22 #[.val (.ref oa), .val (.ref b4)] [(.int (0 : Int32)), (.ref va)])) _
  refine Own.go (fun t k => XS.aloadN X11.here hx rfl (hb hby d37_22) rfl rfl k) ?_
  show Own.Fin p e below (T11.setTop (mkF m 23 #[.val (.ref oa), .val (.ref b4)] [(.ref b4), (.int (0 : Int32)), (.ref va)])) _
  refine Own.go (fun t k => XS.iconst X11.here hx rfl (hb hby d37_23) k) ?_
  show Own.Fin p e below (T11.setTop (mkF m 24 #[.val (.ref oa), .val (.ref b4)] [(.int (0 : Int32)), (.ref b4), (.int (0 : Int32)), (.ref va)])) _
  refine Own.go (fun t k => XS.aloadN X11.here hx rfl (hb hby d37_24) rfl rfl k) ?_
  show Own.Fin p e below (T11.setTop (mkF m 25 #[.val (.ref oa), .val (.ref b4)] [(.ref oa), (.int (0 : Int32)), (.ref b4), (.int (0 : Int32)), (.ref va)])) _
  obtain ⟨T12, X12, e12, st12⟩ := getF X11 hx hZ hown (host := "") (Or.inl (hw _ (List.mem_of_getElem? (i := 109) rfl))) Via.refl e11 f8 (g := (mkF m 25 #[.val (.ref oa), .val (.ref b4)] [(.ref oa), (.int (0 : Int32)), (.ref b4), (.int (0 : Int32)), (.ref va)])) rfl rfl (hb hby d37_25)
  refine Own.go st12 ?_
  show Own.Fin p e below (T12.setTop (mkF m 28 #[.val (.ref oa), .val (.ref b4)] [(.int (Int32.ofNat n)), (.int (0 : Int32)), (.ref b4), (.int (0 : Int32)), (.ref va)])) _
  refine Own.cS X12 hx hZ hown (hw _ (List.mem_of_getElem? (i := 231) rfl)) (hw _ (List.mem_of_getElem? (i := 232) rfl)) (hw _ (List.mem_of_getElem? (i := 128) rfl)) (hw _ (List.mem_of_getElem? (i := 233) rfl)) (by decide) (rm40 l Z a0 hw [] va (0 : Int32) b4 (0 : Int32) (Int32.ofNat n) fs_ kA k4 gA (fun _ => Value.int (0 : Int32)) n ch h4 n0 Z4 O4 SD SH SL SF hc_s f10 V4 ne4_va ge4 rfl rfl rfl hn hA) (by decide) (W := 0) (by decide) (argsL := [(.ref va), (.int (0 : Int32)), (.ref b4), (.int (0 : Int32)), (.int (Int32.ofNat n))]) (rest := []) (by rw [hml]; rfl) (lenOf pd_9 rfl) rfl (Nat.le_of_eq rfl) (hb hby d37_28) e12 (by decide) (by decide) ?_
  intro T13 L13 v13 X13 hQ13
  obtain ⟨g13, rfl, N13q, K13q, V13, hU13⟩ := hQ13
  have N13 := Fr.app N4 N13q
  have f14 := f5.keep K13q
  have f15 := f6.keep K13q (ninS ne4_oa nin0)
  have f16 := f7.keep K13q (ninS ne4_oa nin0)
  have f17 := f8.keep K13q (ninS ne4_oa nin0)
  have f18 := f9.keep K13q (ninS ne4_oa nin0)
  have f19 := f10.keep K13q (ninS ne4_va nin0)
  have Z13 : n0 ≤ T13.heap.size := Nat.le_trans Z4 K13q.1
  have KK13 := K4.trans K13q (allS (Or.inr sz_b4) all0)
  have O13 := O4.keep K13q (allS ge4 all0)
  show Own.Fin p e below (T13.setTop (mkF m 31 #[.val (.ref oa), .val (.ref b4)] [])) _
  refine Own.go (fun t k => XS.aloadN X13.here hx rfl (hb hby d37_31) rfl rfl k) ?_
  show Own.Fin p e below (T13.setTop (mkF m 32 #[.val (.ref oa), .val (.ref b4)] [(.ref oa)])) _
  refine Own.go (fun t k => XS.aloadN X13.here hx rfl (hb hby d37_32) rfl rfl k) ?_
  show Own.Fin p e below (T13.setTop (mkF m 33 #[.val (.ref oa), .val (.ref b4)] [(.ref b4), (.ref oa)])) _
  obtain ⟨T20, h20, X20, e20, W20, st20⟩ := putF X13 hx hZ hown (host := "") (Or.inl (hw _ (List.mem_of_getElem? (i := 76) rfl))) Via.refl rfl f15 f14 (Or.inl (hw _ (List.mem_of_getElem? (i := 77) rfl))) (hw _ (List.mem_of_getElem? (i := 63) rfl)) (ty := (.array .byte)) (by decide) rfl rfl (g := (mkF m 33 #[.val (.ref oa), .val (.ref b4)] [(.ref b4), (.ref oa)])) rfl rfl (hb hby d37_33)
  refine Own.go st20 ?_
  have f21 := f15.same W20
  have N20 := Fr.snoc X20 N13 ga
  have Z20 : n0 ≤ h20.size := by rw [W20.size]; exact Z13
  have f22 := f14.wr W20
  have f23 := f16.other W20 (Or.inr (slot_ne (Or.inl (hw _ (List.mem_of_getElem? (i := 79) rfl))) (Or.inl (hw _ (List.mem_of_getElem? (i := 77) rfl))) (by decide) (t := .byte) (t' := (.array .byte)) (by decide) (by decide)))
  have f24 := f17.other W20 (Or.inr (slot_ne (Or.inl (hw _ (List.mem_of_getElem? (i := 110) rfl))) (Or.inl (hw _ (List.mem_of_getElem? (i := 77) rfl))) (by decide) (t := .int) (t' := (.array .byte)) (by decide) (by decide)))
  have f25 := f18.other W20 (Or.inr (slot_ne (Or.inl (hw _ (List.mem_of_getElem? (i := 269) rfl))) (Or.inl (hw _ (List.mem_of_getElem? (i := 77) rfl))) (by decide) (t := .boolean) (t' := (.array .byte)) (by decide) (by decide)))
  have f26 := f19.other W20 (Ne.symm hov)
  have f27 := V13.other W20 (Ne.symm ne4_oa)
  have K20 := KK13.wr W20 (Or.inl (List.mem_cons_self ..))
  have O20 := O13.wr W20 ga
  show Own.Fin p e below (T20.setTop (mkF m 36 #[.val (.ref oa), .val (.ref b4)] [])) _
  refine Own.go (fun t k => XS.aloadN X20.here hx rfl (hb hby d37_36) rfl rfl k) ?_
  show Own.Fin p e below (T20.setTop (mkF m 37 #[.val (.ref oa), .val (.ref b4)] [(.ref oa)])) _
  refine Own.go (fun t k => XS.iconst X20.here hx rfl (hb hby d37_37) k) ?_
  show Own.Fin p e below (T20.setTop (mkF m 38 #[.val (.ref oa), .val (.ref b4)] [(.int (1 : Int32)), (.ref oa)])) _
  obtain ⟨T28, h28, X28, e28, W28, st28⟩ := putFN X20 hx hZ hown (hw _ (List.mem_of_getElem? (i := 78) rfl)) Via.refl e20 f23 f22 (Or.inl (hw _ (List.mem_of_getElem? (i := 79) rfl))) (hw _ (List.mem_of_getElem? (i := 63) rfl)) (ty := .byte) (v' := (.int (nar .byte (1 : Int32)))) (by decide) rfl (fits_nar_byte _) (g := (mkF m 38 #[.val (.ref oa), .val (.ref b4)] [(.int (1 : Int32)), (.ref oa)])) rfl rfl (hb hby d37_38)
  refine Own.go st28 ?_
  have f29 := f23.same W28
  have N28 := Fr.snoc X28 N20 ga
  have Z28 : n0 ≤ h28.size := by rw [W28.size]; exact Z20
  have f30 := f22.wr W28
  have f31 := f21.other W28 (Or.inr (slot_ne (Or.inl (hw _ (List.mem_of_getElem? (i := 77) rfl))) (Or.inl (hw _ (List.mem_of_getElem? (i := 79) rfl))) (by decide) (t := (.array .byte)) (t' := .byte) (by decide) (by decide)))
  have f32 := f24.other W28 (Or.inr (slot_ne (Or.inl (hw _ (List.mem_of_getElem? (i := 110) rfl))) (Or.inl (hw _ (List.mem_of_getElem? (i := 79) rfl))) (by decide) (t := .int) (t' := .byte) (by decide) (by decide)))
  have f33 := f25.other W28 (Or.inr (slot_ne (Or.inl (hw _ (List.mem_of_getElem? (i := 269) rfl))) (Or.inl (hw _ (List.mem_of_getElem? (i := 79) rfl))) (by decide) (t := .boolean) (t' := .byte) (by decide) (by decide)))
  have f34 := f26.other W28 (Ne.symm hov)
  have f35 := f27.other W28 (Ne.symm ne4_oa)
  have K28 := K20.wr W28 (Or.inl (List.mem_cons_self ..))
  have O28 := O20.wr W28 ga
  show Own.Fin p e below (T28.setTop (mkF m 41 #[.val (.ref oa), .val (.ref b4)] [])) _
  refine Own.retV X28 hx Bd.notSynchronized Bd.returns (hb hby d37_41) (by decide) (by decide) ?_
  exact ⟨b4, k4, g13, rfl, N28, by rw [e28]; exact K28, ge4, gb4, by rw [e28]; exact f31, by rw [e28]; exact f29, by rw [e28]; exact f32, by rw [e28]; exact f33, by rw [e28]; exact f35, hU13⟩
def chA (ch cc : Nat → Nat) (n sN i : Nat) : Nat := if i < n then ch i else cc (sN + (i - n))
def SBR (Z : State) (h : Heap) (oa va : Addr) (ch : Nat → Nat) (n : Nat) : Prop := Exa Z h oa "java/lang/StringBuilder" ∧ Fld Z h oa "java/lang/AbstractStringBuilder" "count" "I" (.int (Int32.ofNat n)) ∧ Fld Z h oa "java/lang/AbstractStringBuilder" "maybeLatin1" "Z" (.int (0 : Int32)) ∧ Fld Z h oa "java/lang/AbstractStringBuilder" "value" "[B" (.ref va) ∧
  ((∃ (k : ClassId) (g : Nat → Value), Fld Z h oa "java/lang/AbstractStringBuilder" "coder" "B" (.int (0 : Int32)) ∧ Arv Z h va k .byte (16 : Int32) (tab 16 g) (.int (0 : Int32)) ∧ ∀ i < n, g i = .int (sb (ch i)) ∧ ch i < 256) ∨
   (∃ (k : ClassId) (g : Nat → Value), Fld Z h oa "java/lang/AbstractStringBuilder" "coder" "B" (.int (1 : Int32)) ∧ Arv Z h va k .byte (32 : Int32) (tab 32 g) (.int (0 : Int32)) ∧ U16of g ch n))
theorem own_nb (c : Nat) (h : c < 256) : nar .byte ((Int32.ofNat c).toInt8.toInt32) = sb c := by
  show ((Int32.ofNat c).toInt8.toInt32).toInt8.toInt32 = _
  apply sb_of _ _ h
  have h2 := c_i2b (Int32.ofNat c)
  rw [Int32.toInt_ofNat_small (by omega)] at h2
  omega
theorem own_can (c : Nat) (hc : c < 65536) (h : ¬ F_can (Int32.ofNat c) = (0 : Int32)) : c < 256 := by
  by_cases q : (255 : Int32) < Int32.ofNat c
  · exact absurd (by rw [F_can, if_pos q]) h
  · have q2 : ¬ 255 < c := fun z => q ((i_lt 255 c (by decide) (by omega)).mpr z)
    omega
theorem lat_step {g g' : Nat → Value} {ch cc : Nat → Nat} {n sN j : Nat} {v : Int32} (h : ∀ i < n + j, g i = .int (sb (chA ch cc n sN i)) ∧ chA ch cc n sN i < 256) (hu : upd g (n + j) (.int v) = g') (hv : v = sb (cc (sN + j))) (hc : cc (sN + j) < 256) : ∀ i < n + (j + 1), g' i = .int (sb (chA ch cc n sN i)) ∧ chA ch cc n sN i < 256 := by
  subst hu hv
  intro i hi
  by_cases q : i = n + j
  · subst q
    have e : chA ch cc n sN (n + j) = cc (sN + j) := by rw [chA, if_neg (by omega), show n + j - n = j by omega]
    rw [e]
    exact ⟨by simp [upd], hc⟩
  · have := h i (by omega)
    exact ⟨by simp only [upd]; rw [if_neg q]; exact this.1, this.2⟩
theorem lat_0 {g : Nat → Value} {ch cc : Nat → Nat} {n sN : Nat} (h : ∀ i < n, g i = .int (sb (ch i)) ∧ ch i < 256) : ∀ i < n + 0, g i = .int (sb (chA ch cc n sN i)) ∧ chA ch cc n sN i < 256 := by
  intro i hi
  rw [chA, if_pos (by omega)]; exact h i (by omega)
theorem u16_app {g g' : Nat → Value} {ch cc : Nat → Nat} {n sN j d : Nat} (h : U16of g (chA ch cc n sN) (n + j)) (ha : App g g' cc (n + j) (sN + j) d) : U16of g' (chA ch cc n sN) (n + j + d) := by
  intro i hi
  by_cases q : i < n + j
  · rw [ha.1 _ (by omega), ha.1 _ (by omega)]; exact h i q
  · have := ha.2 (i - (n + j)) (by omega)
    rw [show n + j + (i - (n + j)) = i by omega, show sN + j + (i - (n + j)) = sN + (i - n) by omega] at this
    rw [chA, if_neg (by omega)]; exact this
theorem u16_0 {g : Nat → Value} {ch cc : Nat → Nat} {n sN : Nat} (h : U16of g ch n) : U16of g (chA ch cc n sN) (n + 0) := by
  intro i hi
  rw [chA, if_pos (by omega)]; exact h i (by omega)
theorem d15_0 : decode jdk_68_method_74_code 0 = .ok (.aload_n 0, 1) := by decide +kernel
theorem d15_1 : decode jdk_68_method_74_code 1 = .ok (.getfield 79, 3) := by decide +kernel
theorem d15_4 : decode jdk_68_method_74_code 4 = .ok (.istore 4, 2) := by decide +kernel
theorem d15_6 : decode jdk_68_method_74_code 6 = .ok (.aload_n 0, 1) := by decide +kernel
theorem d15_7 : decode jdk_68_method_74_code 7 = .ok (.invokevirtual 83, 3) := by decide +kernel
theorem d15_10 : decode jdk_68_method_74_code 10 = .ok (.ifCond .eq 97, 3) := by decide +kernel
theorem d15_13 : decode jdk_68_method_74_code 13 = .ok (.aload_n 0, 1) := by decide +kernel
theorem d15_14 : decode jdk_68_method_74_code 14 = .ok (.getfield 15, 3) := by decide +kernel
theorem d15_17 : decode jdk_68_method_74_code 17 = .ok (.astore 5, 2) := by decide +kernel
theorem d15_19 : decode jdk_68_method_74_code 19 = .ok (.iload_n 2, 1) := by decide +kernel
theorem d15_20 : decode jdk_68_method_74_code 20 = .ok (.istore 6, 2) := by decide +kernel
theorem d15_22 : decode jdk_68_method_74_code 22 = .ok (.iload 4, 2) := by decide +kernel
theorem d15_24 : decode jdk_68_method_74_code 24 = .ok (.istore 7, 2) := by decide +kernel
theorem d15_26 : decode jdk_68_method_74_code 26 = .ok (.iload 6, 2) := by decide +kernel
theorem d15_28 : decode jdk_68_method_74_code 28 = .ok (.iload_n 3, 1) := by decide +kernel
theorem d15_29 : decode jdk_68_method_74_code 29 = .ok (.if_icmp .ge 75, 3) := by decide +kernel
theorem d15_32 : decode jdk_68_method_74_code 32 = .ok (.aload_n 1, 1) := by decide +kernel
theorem d15_33 : decode jdk_68_method_74_code 33 = .ok (.iload 6, 2) := by decide +kernel
theorem d15_35 : decode jdk_68_method_74_code 35 = .ok (.caload, 1) := by decide +kernel
theorem d15_36 : decode jdk_68_method_74_code 36 = .ok (.istore 8, 2) := by decide +kernel
theorem d15_38 : decode jdk_68_method_74_code 38 = .ok (.iload 8, 2) := by decide +kernel
theorem d15_40 : decode jdk_68_method_74_code 40 = .ok (.invokestatic 191, 3) := by decide +kernel
theorem d15_43 : decode jdk_68_method_74_code 43 = .ok (.ifCond .eq 17, 3) := by decide +kernel
theorem d15_46 : decode jdk_68_method_74_code 46 = .ok (.aload 5, 2) := by decide +kernel
theorem d15_48 : decode jdk_68_method_74_code 48 = .ok (.iload 7, 2) := by decide +kernel
theorem d15_50 : decode jdk_68_method_74_code 50 = .ok (.iinc 7 1, 3) := by decide +kernel
theorem d15_53 : decode jdk_68_method_74_code 53 = .ok (.iload 8, 2) := by decide +kernel
theorem d15_55 : decode jdk_68_method_74_code 55 = .ok (.i2b, 1) := by decide +kernel
theorem d15_56 : decode jdk_68_method_74_code 56 = .ok (.bastore, 1) := by decide +kernel
theorem d15_57 : decode jdk_68_method_74_code 57 = .ok (.goto 41, 3) := by decide +kernel
theorem d15_60 : decode jdk_68_method_74_code 60 = .ok (.aload_n 0, 1) := by decide +kernel
theorem d15_61 : decode jdk_68_method_74_code 61 = .ok (.iload 7, 2) := by decide +kernel
theorem d15_63 : decode jdk_68_method_74_code 63 = .ok (.dup, 1) := by decide +kernel
theorem d15_64 : decode jdk_68_method_74_code 64 = .ok (.istore 4, 2) := by decide +kernel
theorem d15_66 : decode jdk_68_method_74_code 66 = .ok (.putfield 79, 3) := by decide +kernel
theorem d15_69 : decode jdk_68_method_74_code 69 = .ok (.aload_n 0, 1) := by decide +kernel
theorem d15_70 : decode jdk_68_method_74_code 70 = .ok (.invokevirtual 195, 3) := by decide +kernel
theorem d15_73 : decode jdk_68_method_74_code 73 = .ok (.aload_n 0, 1) := by decide +kernel
theorem d15_74 : decode jdk_68_method_74_code 74 = .ok (.getfield 15, 3) := by decide +kernel
theorem d15_77 : decode jdk_68_method_74_code 77 = .ok (.iload 7, 2) := by decide +kernel
theorem d15_79 : decode jdk_68_method_74_code 79 = .ok (.aload_n 1, 1) := by decide +kernel
theorem d15_80 : decode jdk_68_method_74_code 80 = .ok (.iload 6, 2) := by decide +kernel
theorem d15_82 : decode jdk_68_method_74_code 82 = .ok (.iload_n 3, 1) := by decide +kernel
theorem d15_83 : decode jdk_68_method_74_code 83 = .ok (.invokestatic 386, 3) := by decide +kernel
theorem d15_86 : decode jdk_68_method_74_code 86 = .ok (.aload_n 0, 1) := by decide +kernel
theorem d15_87 : decode jdk_68_method_74_code 87 = .ok (.iload 4, 2) := by decide +kernel
theorem d15_89 : decode jdk_68_method_74_code 89 = .ok (.iload_n 3, 1) := by decide +kernel
theorem d15_90 : decode jdk_68_method_74_code 90 = .ok (.iadd, 1) := by decide +kernel
theorem d15_91 : decode jdk_68_method_74_code 91 = .ok (.iload 6, 2) := by decide +kernel
theorem d15_93 : decode jdk_68_method_74_code 93 = .ok (.isub, 1) := by decide +kernel
theorem d15_94 : decode jdk_68_method_74_code 94 = .ok (.putfield 79, 3) := by decide +kernel
theorem d15_97 : decode jdk_68_method_74_code 97 = .ok (.return_, 1) := by decide +kernel
theorem d15_98 : decode jdk_68_method_74_code 98 = .ok (.iinc 6 1, 3) := by decide +kernel
theorem d15_101 : decode jdk_68_method_74_code 101 = .ok (.goto (-75), 3) := by decide +kernel
theorem d15_104 : decode jdk_68_method_74_code 104 = .ok (.goto 15, 3) := by decide +kernel
theorem d15_107 : decode jdk_68_method_74_code 107 = .ok (.aload_n 0, 1) := by decide +kernel
theorem d15_108 : decode jdk_68_method_74_code 108 = .ok (.getfield 15, 3) := by decide +kernel
theorem d15_111 : decode jdk_68_method_74_code 111 = .ok (.iload 4, 2) := by decide +kernel
theorem d15_113 : decode jdk_68_method_74_code 113 = .ok (.aload_n 1, 1) := by decide +kernel
theorem d15_114 : decode jdk_68_method_74_code 114 = .ok (.iload_n 2, 1) := by decide +kernel
theorem d15_115 : decode jdk_68_method_74_code 115 = .ok (.iload_n 3, 1) := by decide +kernel
theorem d15_116 : decode jdk_68_method_74_code 116 = .ok (.invokestatic 386, 3) := by decide +kernel
theorem d15_119 : decode jdk_68_method_74_code 119 = .ok (.aload_n 0, 1) := by decide +kernel
theorem d15_120 : decode jdk_68_method_74_code 120 = .ok (.iload 4, 2) := by decide +kernel
theorem d15_122 : decode jdk_68_method_74_code 122 = .ok (.iload_n 3, 1) := by decide +kernel
theorem d15_123 : decode jdk_68_method_74_code 123 = .ok (.iadd, 1) := by decide +kernel
theorem d15_124 : decode jdk_68_method_74_code 124 = .ok (.iload_n 2, 1) := by decide +kernel
theorem d15_125 : decode jdk_68_method_74_code 125 = .ok (.isub, 1) := by decide +kernel
theorem d15_126 : decode jdk_68_method_74_code 126 = .ok (.putfield 79, 3) := by decide +kernel
theorem d15_129 : decode jdk_68_method_74_code 129 = .ok (.return_, 1) := by decide +kernel
theorem pd_15 : parseMethodDescriptor "()V" = some ⟨[], none⟩ := by decide +kernel
theorem pd_14 : parseMethodDescriptor "(C)Z" = some ⟨[.char], some .boolean⟩ := by decide +kernel
theorem pn_15 : plainName "java/lang/AbstractStringBuilder" = true := by first | (simp [plainName, overriddenIn]; done) | decide +kernel
theorem ef_15 (m : MethodId) (oa : Addr) (ra : Addr) (p3 : Int32) (p4 : Int32)  : entryFrame m #[(.ref oa), (.ref ra), (.int p3), (.int p4)] 9 = mkF m 0 #[.val (.ref oa), .val (.ref ra), .val (.int p3), .val (.int p4), .unset, .unset, .unset, .unset, .unset] [] := by first | (simp [entryFrame, mkF, argsToLocals, Value.category]; done) | rfl
def Q15 (Z : State) (oa : Addr) (ra : Addr) (p3 : Int32) (p4 : Int32) (cs : Int32) (fs_ : Value) (va : Addr) (kC : ClassId) (n sN eN : Nat) (ch cc : Nat → Nat) (h0 : Heap) (n0 : Nat) : Option Value → Heap → List Loc → Prop := fun v h L => ∃ va', v = none ∧ Fr n0 L ∧ Keep h0 h [oa, va] ∧ n0 ≤ va' ∧ oa ≠ va' ∧ (va' = va ∨ h0.size ≤ va') ∧ SBR Z h oa va' (chA ch cc n sN) (n + (eN - sN))
set_option maxRecDepth 65536 in
set_option maxHeartbeats 40000000 in
theorem rm15 (l : Launch) (Z : State) (a0 : Array Value) (hw : ∀ d ∈ tables_1, d.before a0 Z = true) (ws : List Jvm.Cond) (oa : Addr) (ra : Addr) (p3 : Int32) (p4 : Int32) (cs : Int32) (fs_ : Value) (va : Addr) (kC : ClassId) (n sN eN : Nat) (ch cc : Nat → Nat) (h0 : Heap) (n0 : Nat) (Z0 : n0 ≤ h0.size) (O0 : Old Z n0 h0) (SC : Sta Z Z.heap "java/lang/String" "COMPACT_STRINGS" "Z" (.int cs)) (SD : Sta Z Z.heap "java/lang/StringUTF16" "$assertionsDisabled" "Z" (.int (1 : Int32))) (SH : Sta Z Z.heap "java/lang/StringUTF16" "HI_BYTE_SHIFT" "I" (.int (0 : Int32))) (SL : Sta Z Z.heap "java/lang/StringUTF16" "LO_BYTE_SHIFT" "I" (.int (8 : Int32))) (SF : Sta Z Z.heap "jdk/internal/util/Preconditions" "SIOOBE_FORMATTER" "Ljava/util/function/BiFunction;" fs_) (hcs : ¬ cs = (0 : Int32)) (hc_s : fs_.category = 1) (hR : SBR Z h0 oa va ch n) (gva : n0 ≤ va) (VC : Arv Z h0 ra kC .char (4 : Int32) (tab 4 (fun i => Value.int (Int32.ofNat (cc i)))) (.int (0 : Int32))) (ga : n0 ≤ oa) (hov : oa ≠ va) (hro : ra ≠ oa) (hrv : ra ≠ va) (hse : sN ≤ eN) (he4 : eN ≤ 4) (hn : n + (eN - sN) ≤ 16) (hcc : ∀ i, cc i < 65536) (hp3 : p3 = Int32.ofNat sN) (hp4 : p4 = Int32.ofNat eN) :
    MetFree l (⟨"java/lang/AbstractStringBuilder", "appendChars", "([CII)V"⟩ : MethodName) (head1 (Jvm.Cond.code (⟨"java/lang/AbstractStringBuilder", "appendChars", "([CII)V"⟩ : MethodName) jdk_68_method_74_code 9 none :: ws) ({ frames := 6, cells := 1, slots := 32, locals := 140 } : Room)) (fun a U => a = #[(.ref oa), (.ref ra), (.int p3), (.int p4)] ∧ Z.Warmed39 U.vm ∧ U.heap = h0) (fun _ _ _ _ _ => True) (fun _ U o U' => ∃ v L, o = .returned v ∧ (Q15 Z oa ra p3 p4 cs fs_ va kC n sN eN ch cc h0 n0) v U'.heap L ∧ FrameEnd U o U' L ({ frames := 6, cells := 1, slots := 32, locals := 140 } : Room).cells ({ frames := 6, cells := 1, slots := 32, locals := 140 } : Room).slots) := by
  refine MetFree.of_bodySF (plainFor_of_name pn_15) hisR ?_
  intro p e s m args below meth c s₁ Bd hml0 hP hK
  obtain ⟨rfl, hZ, hh⟩ := hP
  have hx := Bd.exec
  have hby := Bd.bytes
  have hml : c.maxLocals = 9 := hml0
  have hown : s.vm.findClass "java/lang/AbstractStringBuilder" = some m.cls := findClass_of_methodNamed Bd.named
  have hnm := (name_of_methodNamed Bd.named Bd.method).1
  have X0 : Stand p l e ({ frames := 6, cells := 1, slots := 32, locals := 140 } : Room) s m #[(.ref oa), (.ref ra), (.int p3), (.int p4)] below meth c s₁ [] 0 0 := Stand.of_body Bd
  have e0 : s₁.heap = h0 := by rw [← hh, Bd.state]; rfl
  have N0 := Fr.nil n0
  show Own.Fin p e below _ (Own.Post s (Q15 Z oa ra p3 p4 cs fs_ va kC n sN eN ch cc h0 n0) ({ frames := 6, cells := 1, slots := 32, locals := 140 } : Room).cells ({ frames := 6, cells := 1, slots := 32, locals := 140 } : Room).slots)
  refine Own.start (ef_15 m oa ra p3 p4) ?_
  show Own.Fin p e below (s₁.setTop (mkF m 0 #[.val (.ref oa), .val (.ref ra), .val (.int p3), .val (.int p4), .unset, .unset, .unset, .unset, .unset] [])) _
  obtain ⟨E0, F_count, F_maybeLatin1, F_value, hor⟩ := hR
  rw [hp3, hp4]
  rcases hor with ⟨kA, gA, F_coder, VA, hA⟩ | ⟨kA, gA, F_coder, VA, hU⟩
  · skip
    show Own.Fin p e below (s₁.setTop (mkF m 0 #[.val (.ref oa), .val (.ref ra), .val (.int (Int32.ofNat sN)), .val (.int (Int32.ofNat eN)), .unset, .unset, .unset, .unset, .unset] [])) _
    refine Own.go (fun t k => XS.aloadN X0.here hx rfl (hb hby d15_0) rfl rfl k) ?_
    show Own.Fin p e below (s₁.setTop (mkF m 1 #[.val (.ref oa), .val (.ref ra), .val (.int (Int32.ofNat sN)), .val (.int (Int32.ofNat eN)), .unset, .unset, .unset, .unset, .unset] [(.ref oa)])) _
    obtain ⟨T1, X1, e1, st1⟩ := getF X0 hx hZ hown (host := "") (Or.inl (hw _ (List.mem_of_getElem? (i := 109) rfl))) Via.refl e0 F_count (g := (mkF m 1 #[.val (.ref oa), .val (.ref ra), .val (.int (Int32.ofNat sN)), .val (.int (Int32.ofNat eN)), .unset, .unset, .unset, .unset, .unset] [(.ref oa)])) rfl rfl (hb hby d15_1)
    refine Own.go st1 ?_
    show Own.Fin p e below (T1.setTop (mkF m 4 #[.val (.ref oa), .val (.ref ra), .val (.int (Int32.ofNat sN)), .val (.int (Int32.ofNat eN)), .unset, .unset, .unset, .unset, .unset] [(.int (Int32.ofNat n))])) _
    refine Own.go (fun t k => XS.istore X1.here hx rfl (hb hby d15_4) rfl (l' := #[.val (.ref oa), .val (.ref ra), .val (.int (Int32.ofNat sN)), .val (.int (Int32.ofNat eN)), .val (.int (Int32.ofNat n)), .unset, .unset, .unset, .unset]) rfl k) ?_
    show Own.Fin p e below (T1.setTop (mkF m 6 #[.val (.ref oa), .val (.ref ra), .val (.int (Int32.ofNat sN)), .val (.int (Int32.ofNat eN)), .val (.int (Int32.ofNat n)), .unset, .unset, .unset, .unset] [])) _
    refine Own.go (fun t k => XS.aloadN X1.here hx rfl (hb hby d15_6) rfl rfl k) ?_
    show Own.Fin p e below (T1.setTop (mkF m 7 #[.val (.ref oa), .val (.ref ra), .val (.int (Int32.ofNat sN)), .val (.int (Int32.ofNat eN)), .val (.int (Int32.ofNat n)), .unset, .unset, .unset, .unset] [(.ref oa)])) _
    refine Own.cV X1 hx hZ hown (hw _ (List.mem_of_getElem? (i := 121) rfl)) (hw _ (List.mem_of_getElem? (i := 122) rfl)) (notFace_of_selects (args := #[]) (mvT hZ (hw _ (List.mem_of_getElem? (i := 124) rfl)))) (hw _ (List.mem_of_getElem? (i := 124) rfl)) (hw _ (List.mem_of_getElem? (i := 123) rfl)) (hw _ (List.mem_of_getElem? (i := 72) rfl)) (hw _ (List.mem_of_getElem? (i := 125) rfl)) (by decide) (rm16 l Z a0 hw [] oa cs (0 : Int32) h0 n0 Z0 O0 SC hcs F_coder) (by decide) (W := 0) (by decide) (argsL := []) (rest := []) E0 (by rw [hml]; rfl) (lenOf pd_12 rfl) rfl (Nat.le_of_eq rfl) (hb hby d15_7) e1 (by decide) (by decide) ?_
    intro T2 L2 v2 X2 hQ2
    obtain ⟨rfl, N2q, e2⟩ := hQ2
    have N2 := Fr.app N0 N2q
    show Own.Fin p e below (T2.setTop (mkF m 10 #[.val (.ref oa), .val (.ref ra), .val (.int (Int32.ofNat sN)), .val (.int (Int32.ofNat eN)), .val (.int (Int32.ofNat n)), .unset, .unset, .unset, .unset] [(.int (F_isl (0 : Int32)))])) _
    have hc10_2 : ¬ ((F_isl (0 : Int32)) = (0 : Int32)) := by decide
    refine Own.go (fun t k => XS.ifNo X2.here hx rfl (hb hby d15_10) rfl ((if0 _ _).trans (feq hc10_2).1) k) ?_
    show Own.Fin p e below (T2.setTop (mkF m 13 #[.val (.ref oa), .val (.ref ra), .val (.int (Int32.ofNat sN)), .val (.int (Int32.ofNat eN)), .val (.int (Int32.ofNat n)), .unset, .unset, .unset, .unset] [])) _
    refine Own.go (fun t k => XS.aloadN X2.here hx rfl (hb hby d15_13) rfl rfl k) ?_
    show Own.Fin p e below (T2.setTop (mkF m 14 #[.val (.ref oa), .val (.ref ra), .val (.int (Int32.ofNat sN)), .val (.int (Int32.ofNat eN)), .val (.int (Int32.ofNat n)), .unset, .unset, .unset, .unset] [(.ref oa)])) _
    obtain ⟨T4, X4, e4, st4⟩ := getF X2 hx hZ hown (host := "") (Or.inl (hw _ (List.mem_of_getElem? (i := 76) rfl))) Via.refl e2 F_value (g := (mkF m 14 #[.val (.ref oa), .val (.ref ra), .val (.int (Int32.ofNat sN)), .val (.int (Int32.ofNat eN)), .val (.int (Int32.ofNat n)), .unset, .unset, .unset, .unset] [(.ref oa)])) rfl rfl (hb hby d15_14)
    refine Own.go st4 ?_
    show Own.Fin p e below (T4.setTop (mkF m 17 #[.val (.ref oa), .val (.ref ra), .val (.int (Int32.ofNat sN)), .val (.int (Int32.ofNat eN)), .val (.int (Int32.ofNat n)), .unset, .unset, .unset, .unset] [(.ref va)])) _
    refine Own.go (fun t k => XS.astore X4.here hx rfl (hb hby d15_17) rfl rfl (l' := #[.val (.ref oa), .val (.ref ra), .val (.int (Int32.ofNat sN)), .val (.int (Int32.ofNat eN)), .val (.int (Int32.ofNat n)), .val (.ref va), .unset, .unset, .unset]) rfl k) ?_
    show Own.Fin p e below (T4.setTop (mkF m 19 #[.val (.ref oa), .val (.ref ra), .val (.int (Int32.ofNat sN)), .val (.int (Int32.ofNat eN)), .val (.int (Int32.ofNat n)), .val (.ref va), .unset, .unset, .unset] [])) _
    refine Own.go (fun t k => XS.iloadN X4.here hx rfl (hb hby d15_19) rfl k) ?_
    show Own.Fin p e below (T4.setTop (mkF m 20 #[.val (.ref oa), .val (.ref ra), .val (.int (Int32.ofNat sN)), .val (.int (Int32.ofNat eN)), .val (.int (Int32.ofNat n)), .val (.ref va), .unset, .unset, .unset] [(.int (Int32.ofNat sN))])) _
    refine Own.go (fun t k => XS.istore X4.here hx rfl (hb hby d15_20) rfl (l' := #[.val (.ref oa), .val (.ref ra), .val (.int (Int32.ofNat sN)), .val (.int (Int32.ofNat eN)), .val (.int (Int32.ofNat n)), .val (.ref va), .val (.int (Int32.ofNat sN)), .unset, .unset]) rfl k) ?_
    show Own.Fin p e below (T4.setTop (mkF m 22 #[.val (.ref oa), .val (.ref ra), .val (.int (Int32.ofNat sN)), .val (.int (Int32.ofNat eN)), .val (.int (Int32.ofNat n)), .val (.ref va), .val (.int (Int32.ofNat sN)), .unset, .unset] [])) _
    refine Own.go (fun t k => XS.iload X4.here hx rfl (hb hby d15_22) rfl k) ?_
    show Own.Fin p e below (T4.setTop (mkF m 24 #[.val (.ref oa), .val (.ref ra), .val (.int (Int32.ofNat sN)), .val (.int (Int32.ofNat eN)), .val (.int (Int32.ofNat n)), .val (.ref va), .val (.int (Int32.ofNat sN)), .unset, .unset] [(.int (Int32.ofNat n))])) _
    refine Own.go (fun t k => XS.istore X4.here hx rfl (hb hby d15_24) rfl (l' := #[.val (.ref oa), .val (.ref ra), .val (.int (Int32.ofNat sN)), .val (.int (Int32.ofNat eN)), .val (.int (Int32.ofNat n)), .val (.ref va), .val (.int (Int32.ofNat sN)), .val (.int (Int32.ofNat n)), .unset]) rfl k) ?_
    show Own.Fin p e below (T4.setTop (mkF m 26 #[.val (.ref oa), .val (.ref ra), .val (.int (Int32.ofNat sN)), .val (.int (Int32.ofNat eN)), .val (.int (Int32.ofNat n)), .val (.ref va), .val (.int (Int32.ofNat sN)), .val (.int (Int32.ofNat n)), .unset] [])) _
    have loop1 : ∀ (dd j : Nat) (hjd : j + dd = (eN - sN)) (Tj : State) (hj : Heap) (Lj : List Loc) (g : Nat → Value) (Xj : Stand p l e ({ frames := 6, cells := 1, slots := 32, locals := 140 } : Room) s m #[(.ref oa), (.ref ra), (.int p3), (.int p4)] below meth c Tj Lj 0 0) (ej : Tj.heap = hj) (Nj : Fr n0 Lj) (Zj : n0 ≤ hj.size) (Oj : Old Z n0 hj) (Kj : Keep h0 hj [oa, va]) (Vj0 : Exa Z hj oa "java/lang/StringBuilder") (Vj1 : Fld Z hj oa "java/lang/AbstractStringBuilder" "value" "[B" (.ref va)) (Vj2 : Fld Z hj oa "java/lang/AbstractStringBuilder" "coder" "B" (.int (0 : Int32))) (Vj3 : Fld Z hj oa "java/lang/AbstractStringBuilder" "count" "I" (.int (Int32.ofNat n))) (Vj4 : Fld Z hj oa "java/lang/AbstractStringBuilder" "maybeLatin1" "Z" (.int (0 : Int32))) (Vj5 : Arv Z hj ra kC .char (4 : Int32) (tab 4 (fun i => Value.int (Int32.ofNat (cc i)))) (.int (0 : Int32))) (Vj6 : Arv Z hj va kA .byte (16 : Int32) (tab 16 g) (.int (0 : Int32))) (x8 : Slot) (hx8 : x8 = .unset ∨ ∃ c, x8 = .val (.int c)) (hl : ∀ i < n + j, g i = .int (sb ((chA ch cc n sN) i)) ∧ (chA ch cc n sN) i < 256), Own.Fin p e below (Tj.setTop (mkF m 26 #[.val (.ref oa), .val (.ref ra), .val (.int (Int32.ofNat sN)), .val (.int (Int32.ofNat eN)), .val (.int (Int32.ofNat n)), .val (.ref va), .val (.int (Int32.ofNat (sN + j))), .val (.int (Int32.ofNat (n + j))), x8] [])) (Own.Post s (Q15 Z oa ra p3 p4 cs fs_ va kC n sN eN ch cc h0 n0) ({ frames := 6, cells := 1, slots := 32, locals := 140 } : Room).cells ({ frames := 6, cells := 1, slots := 32, locals := 140 } : Room).slots) := by
      intro dd
      induction dd with
      | zero =>
        intro j hjd Tj hj Lj g Xj ej Nj Zj Oj Kj Vj0 Vj1 Vj2 Vj3 Vj4 Vj5 Vj6 x8 hx8 hl
        have hjd' : j = (eN - sN) := by omega
        rw [hjd'] at hl ⊢
        show Own.Fin p e below (Tj.setTop (mkF m 26 #[.val (.ref oa), .val (.ref ra), .val (.int (Int32.ofNat sN)), .val (.int (Int32.ofNat eN)), .val (.int (Int32.ofNat n)), .val (.ref va), .val (.int (Int32.ofNat (sN + (eN - sN)))), .val (.int (Int32.ofNat (n + (eN - sN)))), x8] [])) _
        refine Own.go (fun t k => XS.iload Xj.here hx rfl (hb hby d15_26) rfl k) ?_
        show Own.Fin p e below (Tj.setTop (mkF m 28 #[.val (.ref oa), .val (.ref ra), .val (.int (Int32.ofNat sN)), .val (.int (Int32.ofNat eN)), .val (.int (Int32.ofNat n)), .val (.ref va), .val (.int (Int32.ofNat (sN + (eN - sN)))), .val (.int (Int32.ofNat (n + (eN - sN)))), x8] [(.int (Int32.ofNat (sN + (eN - sN))))])) _
        refine Own.go (fun t k => XS.iloadN Xj.here hx rfl (hb hby d15_28) rfl k) ?_
        show Own.Fin p e below (Tj.setTop (mkF m 29 #[.val (.ref oa), .val (.ref ra), .val (.int (Int32.ofNat sN)), .val (.int (Int32.ofNat eN)), .val (.int (Int32.ofNat n)), .val (.ref va), .val (.int (Int32.ofNat (sN + (eN - sN)))), .val (.int (Int32.ofNat (n + (eN - sN)))), x8] [(.int (Int32.ofNat eN)), (.int (Int32.ofNat (sN + (eN - sN))))])) _
        have hc29_4 : ¬ ((Int32.ofNat (sN + (eN - sN))) < (Int32.ofNat eN)) := fun h => absurd ((i_lt _ _ (by omega) (by omega)).mp h) (by omega)
        refine Own.go (fun t k => XS.icmpYes Xj.here hx rfl (pc0 := 29) (pc' := 104) rfl (hb hby d15_29) rfl (flt hc29_4).2.1 (by decide) (by decide) k) ?_
        show Own.Fin p e below (Tj.setTop (mkF m 104 #[.val (.ref oa), .val (.ref ra), .val (.int (Int32.ofNat sN)), .val (.int (Int32.ofNat eN)), .val (.int (Int32.ofNat n)), .val (.ref va), .val (.int (Int32.ofNat (sN + (eN - sN)))), .val (.int (Int32.ofNat (n + (eN - sN)))), x8] [])) _
        refine Own.go (fun t k => XS.goto Xj.here hx rfl (pc0 := 104) (pc' := 119) rfl (hb hby d15_104) (by decide) (by decide) k) ?_
        show Own.Fin p e below (Tj.setTop (mkF m 119 #[.val (.ref oa), .val (.ref ra), .val (.int (Int32.ofNat sN)), .val (.int (Int32.ofNat eN)), .val (.int (Int32.ofNat n)), .val (.ref va), .val (.int (Int32.ofNat (sN + (eN - sN)))), .val (.int (Int32.ofNat (n + (eN - sN)))), x8] [])) _
        refine Own.go (fun t k => XS.aloadN Xj.here hx rfl (hb hby d15_119) rfl rfl k) ?_
        show Own.Fin p e below (Tj.setTop (mkF m 120 #[.val (.ref oa), .val (.ref ra), .val (.int (Int32.ofNat sN)), .val (.int (Int32.ofNat eN)), .val (.int (Int32.ofNat n)), .val (.ref va), .val (.int (Int32.ofNat (sN + (eN - sN)))), .val (.int (Int32.ofNat (n + (eN - sN)))), x8] [(.ref oa)])) _
        refine Own.go (fun t k => XS.iload Xj.here hx rfl (hb hby d15_120) rfl k) ?_
        show Own.Fin p e below (Tj.setTop (mkF m 122 #[.val (.ref oa), .val (.ref ra), .val (.int (Int32.ofNat sN)), .val (.int (Int32.ofNat eN)), .val (.int (Int32.ofNat n)), .val (.ref va), .val (.int (Int32.ofNat (sN + (eN - sN)))), .val (.int (Int32.ofNat (n + (eN - sN)))), x8] [(.int (Int32.ofNat n)), (.ref oa)])) _
        refine Own.go (fun t k => XS.iloadN Xj.here hx rfl (hb hby d15_122) rfl k) ?_
        show Own.Fin p e below (Tj.setTop (mkF m 123 #[.val (.ref oa), .val (.ref ra), .val (.int (Int32.ofNat sN)), .val (.int (Int32.ofNat eN)), .val (.int (Int32.ofNat n)), .val (.ref va), .val (.int (Int32.ofNat (sN + (eN - sN)))), .val (.int (Int32.ofNat (n + (eN - sN)))), x8] [(.int (Int32.ofNat eN)), (.int (Int32.ofNat n)), (.ref oa)])) _
        refine Own.go (fun t k => XS.iadd Xj.here hx rfl (hb hby d15_123) rfl k) ?_
        show Own.Fin p e below (Tj.setTop (mkF m 124 #[.val (.ref oa), .val (.ref ra), .val (.int (Int32.ofNat sN)), .val (.int (Int32.ofNat eN)), .val (.int (Int32.ofNat n)), .val (.ref va), .val (.int (Int32.ofNat (sN + (eN - sN)))), .val (.int (Int32.ofNat (n + (eN - sN)))), x8] [(.int ((Int32.ofNat n) + (Int32.ofNat eN))), (.ref oa)])) _
        refine Own.go (fun t k => XS.iloadN Xj.here hx rfl (hb hby d15_124) rfl k) ?_
        show Own.Fin p e below (Tj.setTop (mkF m 125 #[.val (.ref oa), .val (.ref ra), .val (.int (Int32.ofNat sN)), .val (.int (Int32.ofNat eN)), .val (.int (Int32.ofNat n)), .val (.ref va), .val (.int (Int32.ofNat (sN + (eN - sN)))), .val (.int (Int32.ofNat (n + (eN - sN)))), x8] [(.int (Int32.ofNat sN)), (.int ((Int32.ofNat n) + (Int32.ofNat eN))), (.ref oa)])) _
        refine Own.go (fun t k => XS.isub Xj.here hx rfl (hb hby d15_125) rfl k) ?_
        show Own.Fin p e below (Tj.setTop (mkF m 126 #[.val (.ref oa), .val (.ref ra), .val (.int (Int32.ofNat sN)), .val (.int (Int32.ofNat eN)), .val (.int (Int32.ofNat n)), .val (.ref va), .val (.int (Int32.ofNat (sN + (eN - sN)))), .val (.int (Int32.ofNat (n + (eN - sN)))), x8] [(.int (((Int32.ofNat n) + (Int32.ofNat eN)) - (Int32.ofNat sN))), (.ref oa)])) _
        rw [show (((Int32.ofNat n) + (Int32.ofNat eN)) - (Int32.ofNat sN)) = (Int32.ofNat (n + (eN - sN))) from (by rw [← Int32.ofNat_add, ← Int32.ofNat_sub _ _ (by omega)]; congr 1; omega)]
        show Own.Fin p e below (Tj.setTop (mkF m 126 #[.val (.ref oa), .val (.ref ra), .val (.int (Int32.ofNat sN)), .val (.int (Int32.ofNat eN)), .val (.int (Int32.ofNat n)), .val (.ref va), .val (.int (Int32.ofNat (sN + (eN - sN)))), .val (.int (Int32.ofNat (n + (eN - sN)))), x8] [(.int (Int32.ofNat (n + (eN - sN)))), (.ref oa)])) _
        obtain ⟨T6, h6, X6, e6, W6, st6⟩ := putF Xj hx hZ hown (host := "") (Or.inl (hw _ (List.mem_of_getElem? (i := 109) rfl))) Via.refl ej Vj3 Vj0 (Or.inl (hw _ (List.mem_of_getElem? (i := 110) rfl))) (hw _ (List.mem_of_getElem? (i := 63) rfl)) (ty := .int) (by decide) rfl rfl (g := (mkF m 126 #[.val (.ref oa), .val (.ref ra), .val (.int (Int32.ofNat sN)), .val (.int (Int32.ofNat eN)), .val (.int (Int32.ofNat n)), .val (.ref va), .val (.int (Int32.ofNat (sN + (eN - sN)))), .val (.int (Int32.ofNat (n + (eN - sN)))), x8] [(.int (Int32.ofNat (n + (eN - sN)))), (.ref oa)])) rfl rfl (hb hby d15_126)
        refine Own.go st6 ?_
        have f7 := Vj3.same W6
        have N6 := Fr.snoc X6 Nj ga
        have Z6 : n0 ≤ h6.size := by rw [W6.size]; exact Zj
        have f8 := Vj0.wr W6
        have f9 := Vj1.other W6 (Or.inr (slot_ne (Or.inl (hw _ (List.mem_of_getElem? (i := 77) rfl))) (Or.inl (hw _ (List.mem_of_getElem? (i := 110) rfl))) (by decide) (t := (.array .byte)) (t' := .int) (by decide) (by decide)))
        have f10 := Vj2.other W6 (Or.inr (slot_ne (Or.inl (hw _ (List.mem_of_getElem? (i := 79) rfl))) (Or.inl (hw _ (List.mem_of_getElem? (i := 110) rfl))) (by decide) (t := .byte) (t' := .int) (by decide) (by decide)))
        have f11 := Vj4.other W6 (Or.inr (slot_ne (Or.inl (hw _ (List.mem_of_getElem? (i := 269) rfl))) (Or.inl (hw _ (List.mem_of_getElem? (i := 110) rfl))) (by decide) (t := .boolean) (t' := .int) (by decide) (by decide)))
        have f12 := Vj5.other W6 hro
        have f13 := Vj6.other W6 (Ne.symm hov)
        have K6 := Kj.wr W6 (Or.inl (List.mem_cons_self ..))
        have O6 := Oj.wr W6 ga
        show Own.Fin p e below (T6.setTop (mkF m 129 #[.val (.ref oa), .val (.ref ra), .val (.int (Int32.ofNat sN)), .val (.int (Int32.ofNat eN)), .val (.int (Int32.ofNat n)), .val (.ref va), .val (.int (Int32.ofNat (sN + (eN - sN)))), .val (.int (Int32.ofNat (n + (eN - sN)))), x8] [])) _
        refine Own.retV X6 hx Bd.notSynchronized Bd.returns (hb hby d15_129) (by decide) (by decide) ?_
        exact ⟨va, rfl, N6, by rw [e6]; exact K6, gva, hov, Or.inl rfl, by rw [e6]; exact ⟨f8, f7, f11, f9, Or.inl ⟨kA, g, f10, f13, hl⟩⟩⟩
      | succ dd ih =>
        intro j hjd Tj hj Lj g Xj ej Nj Zj Oj Kj Vj0 Vj1 Vj2 Vj3 Vj4 Vj5 Vj6 x8 hx8 hl
        show Own.Fin p e below (Tj.setTop (mkF m 26 #[.val (.ref oa), .val (.ref ra), .val (.int (Int32.ofNat sN)), .val (.int (Int32.ofNat eN)), .val (.int (Int32.ofNat n)), .val (.ref va), .val (.int (Int32.ofNat (sN + j))), .val (.int (Int32.ofNat (n + j))), x8] [])) _
        refine Own.go (fun t k => XS.iload Xj.here hx rfl (hb hby d15_26) rfl k) ?_
        show Own.Fin p e below (Tj.setTop (mkF m 28 #[.val (.ref oa), .val (.ref ra), .val (.int (Int32.ofNat sN)), .val (.int (Int32.ofNat eN)), .val (.int (Int32.ofNat n)), .val (.ref va), .val (.int (Int32.ofNat (sN + j))), .val (.int (Int32.ofNat (n + j))), x8] [(.int (Int32.ofNat (sN + j)))])) _
        refine Own.go (fun t k => XS.iloadN Xj.here hx rfl (hb hby d15_28) rfl k) ?_
        show Own.Fin p e below (Tj.setTop (mkF m 29 #[.val (.ref oa), .val (.ref ra), .val (.int (Int32.ofNat sN)), .val (.int (Int32.ofNat eN)), .val (.int (Int32.ofNat n)), .val (.ref va), .val (.int (Int32.ofNat (sN + j))), .val (.int (Int32.ofNat (n + j))), x8] [(.int (Int32.ofNat eN)), (.int (Int32.ofNat (sN + j)))])) _
        have hc29_13 : (Int32.ofNat (sN + j)) < (Int32.ofNat eN) := (i_lt _ _ (by omega) (by omega)).mpr (by omega)
        refine Own.go (fun t k => XS.icmpNo Xj.here hx rfl (hb hby d15_29) rfl (tlt hc29_13).2.1 k) ?_
        show Own.Fin p e below (Tj.setTop (mkF m 32 #[.val (.ref oa), .val (.ref ra), .val (.int (Int32.ofNat sN)), .val (.int (Int32.ofNat eN)), .val (.int (Int32.ofNat n)), .val (.ref va), .val (.int (Int32.ofNat (sN + j))), .val (.int (Int32.ofNat (n + j))), x8] [])) _
        refine Own.go (fun t k => XS.aloadN Xj.here hx rfl (hb hby d15_32) rfl rfl k) ?_
        show Own.Fin p e below (Tj.setTop (mkF m 33 #[.val (.ref oa), .val (.ref ra), .val (.int (Int32.ofNat sN)), .val (.int (Int32.ofNat eN)), .val (.int (Int32.ofNat n)), .val (.ref va), .val (.int (Int32.ofNat (sN + j))), .val (.int (Int32.ofNat (n + j))), x8] [(.ref ra)])) _
        refine Own.go (fun t k => XS.iload Xj.here hx rfl (hb hby d15_33) rfl k) ?_
        show Own.Fin p e below (Tj.setTop (mkF m 35 #[.val (.ref oa), .val (.ref ra), .val (.int (Int32.ofNat sN)), .val (.int (Int32.ofNat eN)), .val (.int (Int32.ofNat n)), .val (.ref va), .val (.int (Int32.ofNat (sN + j))), .val (.int (Int32.ofNat (n + j))), x8] [(.int (Int32.ofNat (sN + j))), (.ref ra)])) _
        refine ldCT (x := (Int32.ofNat (cc (sN + j)))) Xj hx hZ ej Vj5 (hb hby d15_35) rfl (by decide) (sN + j) rfl (by omega) rfl ?_
        show Own.Fin p e below (Tj.setTop (mkF m 36 #[.val (.ref oa), .val (.ref ra), .val (.int (Int32.ofNat sN)), .val (.int (Int32.ofNat eN)), .val (.int (Int32.ofNat n)), .val (.ref va), .val (.int (Int32.ofNat (sN + j))), .val (.int (Int32.ofNat (n + j))), x8] [(.int (Int32.ofNat (cc (sN + j))))])) _
        refine Own.go (fun t k => XS.istore Xj.here hx rfl (hb hby d15_36) rfl (l' := #[.val (.ref oa), .val (.ref ra), .val (.int (Int32.ofNat sN)), .val (.int (Int32.ofNat eN)), .val (.int (Int32.ofNat n)), .val (.ref va), .val (.int (Int32.ofNat (sN + j))), .val (.int (Int32.ofNat (n + j))), .val (.int (Int32.ofNat (cc (sN + j))))]) (by rcases hx8 with rfl | ⟨_, rfl⟩ <;> rfl) k) ?_
        show Own.Fin p e below (Tj.setTop (mkF m 38 #[.val (.ref oa), .val (.ref ra), .val (.int (Int32.ofNat sN)), .val (.int (Int32.ofNat eN)), .val (.int (Int32.ofNat n)), .val (.ref va), .val (.int (Int32.ofNat (sN + j))), .val (.int (Int32.ofNat (n + j))), .val (.int (Int32.ofNat (cc (sN + j))))] [])) _
        refine Own.go (fun t k => XS.iload Xj.here hx rfl (hb hby d15_38) rfl k) ?_
        show Own.Fin p e below (Tj.setTop (mkF m 40 #[.val (.ref oa), .val (.ref ra), .val (.int (Int32.ofNat sN)), .val (.int (Int32.ofNat eN)), .val (.int (Int32.ofNat n)), .val (.ref va), .val (.int (Int32.ofNat (sN + j))), .val (.int (Int32.ofNat (n + j))), .val (.int (Int32.ofNat (cc (sN + j))))] [(.int (Int32.ofNat (cc (sN + j))))])) _
        refine Own.cS Xj hx hZ hown (hw _ (List.mem_of_getElem? (i := 126) rfl)) (hw _ (List.mem_of_getElem? (i := 127) rfl)) (hw _ (List.mem_of_getElem? (i := 128) rfl)) (hw _ (List.mem_of_getElem? (i := 129) rfl)) (by decide) (rm17 l Z a0 hw [] (Int32.ofNat (cc (sN + j))) hj n0 Zj ) (by decide) (W := 0) (by decide) (argsL := [(.int (Int32.ofNat (cc (sN + j))))]) (rest := []) (by rw [hml]; rfl) (lenOf pd_14 rfl) rfl (Nat.le_of_eq rfl) (hb hby d15_40) ej (by decide) (by decide) ?_
        intro T15 L15 v15 X15 hQ15
        obtain ⟨rfl, N15q, e15⟩ := hQ15
        have N15 := Fr.app Nj N15q
        show Own.Fin p e below (T15.setTop (mkF m 43 #[.val (.ref oa), .val (.ref ra), .val (.int (Int32.ofNat sN)), .val (.int (Int32.ofNat eN)), .val (.int (Int32.ofNat n)), .val (.ref va), .val (.int (Int32.ofNat (sN + j))), .val (.int (Int32.ofNat (n + j))), .val (.int (Int32.ofNat (cc (sN + j))))] [(.int (F_can (Int32.ofNat (cc (sN + j)))))])) _
        by_cases hc43_15 : (F_can (Int32.ofNat (cc (sN + j)))) = (0 : Int32)
        · skip
          refine Own.go (fun t k => XS.ifYes X15.here hx rfl (pc0 := 43) (pc' := 60) rfl (hb hby d15_43) rfl ((if0 _ _).trans (teq hc43_15).1) (by decide) (by decide) k) ?_
          show Own.Fin p e below (T15.setTop (mkF m 60 #[.val (.ref oa), .val (.ref ra), .val (.int (Int32.ofNat sN)), .val (.int (Int32.ofNat eN)), .val (.int (Int32.ofNat n)), .val (.ref va), .val (.int (Int32.ofNat (sN + j))), .val (.int (Int32.ofNat (n + j))), .val (.int (Int32.ofNat (cc (sN + j))))] [])) _
          refine Own.go (fun t k => XS.aloadN X15.here hx rfl (hb hby d15_60) rfl rfl k) ?_
          show Own.Fin p e below (T15.setTop (mkF m 61 #[.val (.ref oa), .val (.ref ra), .val (.int (Int32.ofNat sN)), .val (.int (Int32.ofNat eN)), .val (.int (Int32.ofNat n)), .val (.ref va), .val (.int (Int32.ofNat (sN + j))), .val (.int (Int32.ofNat (n + j))), .val (.int (Int32.ofNat (cc (sN + j))))] [(.ref oa)])) _
          refine Own.go (fun t k => XS.iload X15.here hx rfl (hb hby d15_61) rfl k) ?_
          show Own.Fin p e below (T15.setTop (mkF m 63 #[.val (.ref oa), .val (.ref ra), .val (.int (Int32.ofNat sN)), .val (.int (Int32.ofNat eN)), .val (.int (Int32.ofNat n)), .val (.ref va), .val (.int (Int32.ofNat (sN + j))), .val (.int (Int32.ofNat (n + j))), .val (.int (Int32.ofNat (cc (sN + j))))] [(.int (Int32.ofNat (n + j))), (.ref oa)])) _
          refine Own.go (fun t k => XS.dup X15.here hx rfl (hb hby d15_63) rfl rfl k) ?_
          show Own.Fin p e below (T15.setTop (mkF m 64 #[.val (.ref oa), .val (.ref ra), .val (.int (Int32.ofNat sN)), .val (.int (Int32.ofNat eN)), .val (.int (Int32.ofNat n)), .val (.ref va), .val (.int (Int32.ofNat (sN + j))), .val (.int (Int32.ofNat (n + j))), .val (.int (Int32.ofNat (cc (sN + j))))] [(.int (Int32.ofNat (n + j))), (.int (Int32.ofNat (n + j))), (.ref oa)])) _
          refine Own.go (fun t k => XS.istore X15.here hx rfl (hb hby d15_64) rfl (l' := #[.val (.ref oa), .val (.ref ra), .val (.int (Int32.ofNat sN)), .val (.int (Int32.ofNat eN)), .val (.int (Int32.ofNat (n + j))), .val (.ref va), .val (.int (Int32.ofNat (sN + j))), .val (.int (Int32.ofNat (n + j))), .val (.int (Int32.ofNat (cc (sN + j))))]) rfl k) ?_
          show Own.Fin p e below (T15.setTop (mkF m 66 #[.val (.ref oa), .val (.ref ra), .val (.int (Int32.ofNat sN)), .val (.int (Int32.ofNat eN)), .val (.int (Int32.ofNat (n + j))), .val (.ref va), .val (.int (Int32.ofNat (sN + j))), .val (.int (Int32.ofNat (n + j))), .val (.int (Int32.ofNat (cc (sN + j))))] [(.int (Int32.ofNat (n + j))), (.ref oa)])) _
          obtain ⟨T17, h17, X17, e17, W17, st17⟩ := putF X15 hx hZ hown (host := "") (Or.inl (hw _ (List.mem_of_getElem? (i := 109) rfl))) Via.refl e15 Vj3 Vj0 (Or.inl (hw _ (List.mem_of_getElem? (i := 110) rfl))) (hw _ (List.mem_of_getElem? (i := 63) rfl)) (ty := .int) (by decide) rfl rfl (g := (mkF m 66 #[.val (.ref oa), .val (.ref ra), .val (.int (Int32.ofNat sN)), .val (.int (Int32.ofNat eN)), .val (.int (Int32.ofNat (n + j))), .val (.ref va), .val (.int (Int32.ofNat (sN + j))), .val (.int (Int32.ofNat (n + j))), .val (.int (Int32.ofNat (cc (sN + j))))] [(.int (Int32.ofNat (n + j))), (.ref oa)])) rfl rfl (hb hby d15_66)
          refine Own.go st17 ?_
          have f18 := Vj3.same W17
          have N17 := Fr.snoc X17 N15 ga
          have Z17 : n0 ≤ h17.size := by rw [W17.size]; exact Zj
          have f19 := Vj0.wr W17
          have f20 := Vj1.other W17 (Or.inr (slot_ne (Or.inl (hw _ (List.mem_of_getElem? (i := 77) rfl))) (Or.inl (hw _ (List.mem_of_getElem? (i := 110) rfl))) (by decide) (t := (.array .byte)) (t' := .int) (by decide) (by decide)))
          have f21 := Vj2.other W17 (Or.inr (slot_ne (Or.inl (hw _ (List.mem_of_getElem? (i := 79) rfl))) (Or.inl (hw _ (List.mem_of_getElem? (i := 110) rfl))) (by decide) (t := .byte) (t' := .int) (by decide) (by decide)))
          have f22 := Vj4.other W17 (Or.inr (slot_ne (Or.inl (hw _ (List.mem_of_getElem? (i := 269) rfl))) (Or.inl (hw _ (List.mem_of_getElem? (i := 110) rfl))) (by decide) (t := .boolean) (t' := .int) (by decide) (by decide)))
          have f23 := Vj5.other W17 hro
          have f24 := Vj6.other W17 (Ne.symm hov)
          have K17 := Kj.wr W17 (Or.inl (List.mem_cons_self ..))
          have O17 := Oj.wr W17 ga
          show Own.Fin p e below (T17.setTop (mkF m 69 #[.val (.ref oa), .val (.ref ra), .val (.int (Int32.ofNat sN)), .val (.int (Int32.ofNat eN)), .val (.int (Int32.ofNat (n + j))), .val (.ref va), .val (.int (Int32.ofNat (sN + j))), .val (.int (Int32.ofNat (n + j))), .val (.int (Int32.ofNat (cc (sN + j))))] [])) _
          refine Own.go (fun t k => XS.aloadN X17.here hx rfl (hb hby d15_69) rfl rfl k) ?_
          show Own.Fin p e below (T17.setTop (mkF m 70 #[.val (.ref oa), .val (.ref ra), .val (.int (Int32.ofNat sN)), .val (.int (Int32.ofNat eN)), .val (.int (Int32.ofNat (n + j))), .val (.ref va), .val (.int (Int32.ofNat (sN + j))), .val (.int (Int32.ofNat (n + j))), .val (.int (Int32.ofNat (cc (sN + j))))] [(.ref oa)])) _
          refine Own.cP X17 hx hZ hown (hw _ (List.mem_of_getElem? (i := 218) rfl)) (hw _ (List.mem_of_getElem? (i := 219) rfl)) (hw _ (List.mem_of_getElem? (i := 220) rfl)) (hw _ (List.mem_of_getElem? (i := 114) rfl)) rfl (hw _ (List.mem_of_getElem? (i := 72) rfl)) (hw _ (List.mem_of_getElem? (i := 222) rfl)) (by decide) (rm37 l Z a0 hw [] oa cs fs_ va kA g (n + j) (chA ch cc n sN) h17 n0 Z17 O17 SC SD SH SL SF hcs hc_s f19 f20 f21 f18 f22 f24 ga hov (by omega) hl) (by decide) (W := 0) (by decide) (argsL := []) (rest := []) f19 (by rw [hml]; rfl) (lenOf pd_15 rfl) rfl (Nat.le_of_eq rfl) (hb hby d15_70) e17 (by decide) (by decide) ?_
          intro T25 L25 v25 X25 hQ25
          obtain ⟨b25, k25, g25, rfl, N25q, K25q, ge25, gb25, Fv25, Fc25, Fn25, Fm25, V25, hU25⟩ := hQ25
          have N25 := Fr.app N17 N25q
          have ne25_ra : ra ≠ b25 := Nat.ne_of_lt (Nat.lt_of_lt_of_le f23.lt (Nat.le_of_eq gb25.symm))
          have ne25_oa : oa ≠ b25 := Nat.ne_of_lt (Nat.lt_of_lt_of_le f19.lt (Nat.le_of_eq gb25.symm))
          have ne25_va : va ≠ b25 := Nat.ne_of_lt (Nat.lt_of_lt_of_le f24.lt (Nat.le_of_eq gb25.symm))
          have sz_b25 : h0.size ≤ b25 := Nat.le_trans K17.1 (Nat.le_of_eq gb25.symm)
          have f26 := f19.keep K25q
          have f27 := f23.keep K25q (ninS hro nin0)
          have f28 := f24.keep K25q (ninS (Ne.symm hov) nin0)
          have Z25 : n0 ≤ T25.heap.size := Nat.le_trans Z17 K25q.1
          have KK25 := K17.trans K25q (allS (Or.inl (List.mem_cons_self ..)) all0)
          have O25 := O17.keep K25q (allS ga all0)
          show Own.Fin p e below (T25.setTop (mkF m 73 #[.val (.ref oa), .val (.ref ra), .val (.int (Int32.ofNat sN)), .val (.int (Int32.ofNat eN)), .val (.int (Int32.ofNat (n + j))), .val (.ref va), .val (.int (Int32.ofNat (sN + j))), .val (.int (Int32.ofNat (n + j))), .val (.int (Int32.ofNat (cc (sN + j))))] [])) _
          refine Own.go (fun t k => XS.aloadN X25.here hx rfl (hb hby d15_73) rfl rfl k) ?_
          show Own.Fin p e below (T25.setTop (mkF m 74 #[.val (.ref oa), .val (.ref ra), .val (.int (Int32.ofNat sN)), .val (.int (Int32.ofNat eN)), .val (.int (Int32.ofNat (n + j))), .val (.ref va), .val (.int (Int32.ofNat (sN + j))), .val (.int (Int32.ofNat (n + j))), .val (.int (Int32.ofNat (cc (sN + j))))] [(.ref oa)])) _
          obtain ⟨T29, X29, e29, st29⟩ := getF X25 hx hZ hown (host := "") (Or.inl (hw _ (List.mem_of_getElem? (i := 76) rfl))) Via.refl rfl Fv25 (g := (mkF m 74 #[.val (.ref oa), .val (.ref ra), .val (.int (Int32.ofNat sN)), .val (.int (Int32.ofNat eN)), .val (.int (Int32.ofNat (n + j))), .val (.ref va), .val (.int (Int32.ofNat (sN + j))), .val (.int (Int32.ofNat (n + j))), .val (.int (Int32.ofNat (cc (sN + j))))] [(.ref oa)])) rfl rfl (hb hby d15_74)
          refine Own.go st29 ?_
          show Own.Fin p e below (T29.setTop (mkF m 77 #[.val (.ref oa), .val (.ref ra), .val (.int (Int32.ofNat sN)), .val (.int (Int32.ofNat eN)), .val (.int (Int32.ofNat (n + j))), .val (.ref va), .val (.int (Int32.ofNat (sN + j))), .val (.int (Int32.ofNat (n + j))), .val (.int (Int32.ofNat (cc (sN + j))))] [(.ref b25)])) _
          refine Own.go (fun t k => XS.iload X29.here hx rfl (hb hby d15_77) rfl k) ?_
          show Own.Fin p e below (T29.setTop (mkF m 79 #[.val (.ref oa), .val (.ref ra), .val (.int (Int32.ofNat sN)), .val (.int (Int32.ofNat eN)), .val (.int (Int32.ofNat (n + j))), .val (.ref va), .val (.int (Int32.ofNat (sN + j))), .val (.int (Int32.ofNat (n + j))), .val (.int (Int32.ofNat (cc (sN + j))))] [(.int (Int32.ofNat (n + j))), (.ref b25)])) _
          refine Own.go (fun t k => XS.aloadN X29.here hx rfl (hb hby d15_79) rfl rfl k) ?_
          show Own.Fin p e below (T29.setTop (mkF m 80 #[.val (.ref oa), .val (.ref ra), .val (.int (Int32.ofNat sN)), .val (.int (Int32.ofNat eN)), .val (.int (Int32.ofNat (n + j))), .val (.ref va), .val (.int (Int32.ofNat (sN + j))), .val (.int (Int32.ofNat (n + j))), .val (.int (Int32.ofNat (cc (sN + j))))] [(.ref ra), (.int (Int32.ofNat (n + j))), (.ref b25)])) _
          refine Own.go (fun t k => XS.iload X29.here hx rfl (hb hby d15_80) rfl k) ?_
          show Own.Fin p e below (T29.setTop (mkF m 82 #[.val (.ref oa), .val (.ref ra), .val (.int (Int32.ofNat sN)), .val (.int (Int32.ofNat eN)), .val (.int (Int32.ofNat (n + j))), .val (.ref va), .val (.int (Int32.ofNat (sN + j))), .val (.int (Int32.ofNat (n + j))), .val (.int (Int32.ofNat (cc (sN + j))))] [(.int (Int32.ofNat (sN + j))), (.ref ra), (.int (Int32.ofNat (n + j))), (.ref b25)])) _
          refine Own.go (fun t k => XS.iloadN X29.here hx rfl (hb hby d15_82) rfl k) ?_
          show Own.Fin p e below (T29.setTop (mkF m 83 #[.val (.ref oa), .val (.ref ra), .val (.int (Int32.ofNat sN)), .val (.int (Int32.ofNat eN)), .val (.int (Int32.ofNat (n + j))), .val (.ref va), .val (.int (Int32.ofNat (sN + j))), .val (.int (Int32.ofNat (n + j))), .val (.int (Int32.ofNat (cc (sN + j))))] [(.int (Int32.ofNat eN)), (.int (Int32.ofNat (sN + j))), (.ref ra), (.int (Int32.ofNat (n + j))), (.ref b25)])) _
          refine Own.cS X29 hx hZ hown (hw _ (List.mem_of_getElem? (i := 249) rfl)) (hw _ (List.mem_of_getElem? (i := 250) rfl)) (hw _ (List.mem_of_getElem? (i := 225) rfl)) (hw _ (List.mem_of_getElem? (i := 251) rfl)) (by decide) (rm46 l Z a0 hw [] b25 (Int32.ofNat (n + j)) ra (Int32.ofNat (sN + j)) (Int32.ofNat eN) fs_ kC k25 g25 (n + j) (sN + j) eN cc T25.heap n0 Z25 O25 SD SH SL SF hc_s V25 f27 ne25_ra ge25 rfl rfl rfl (by omega) he4 (by omega) hcc) (by decide) (W := 0) (by decide) (argsL := [(.ref b25), (.int (Int32.ofNat (n + j))), (.ref ra), (.int (Int32.ofNat (sN + j))), (.int (Int32.ofNat eN))]) (rest := []) (by rw [hml]; rfl) (lenOf pd_10 rfl) rfl (Nat.le_of_eq rfl) (hb hby d15_83) e29 (by decide) (by decide) ?_
          intro T30 L30 v30 X30 hQ30
          obtain ⟨g30, rfl, N30q, K30q, V30, hA30⟩ := hQ30
          have N30 := Fr.app N25 N30q
          have f31 := f26.keep K30q
          have f32 := f27.keep K30q (ninS ne25_ra nin0)
          have f33 := f28.keep K30q (ninS ne25_va nin0)
          have f34 := Fv25.keep K30q (ninS ne25_oa nin0)
          have f35 := Fc25.keep K30q (ninS ne25_oa nin0)
          have f36 := Fn25.keep K30q (ninS ne25_oa nin0)
          have f37 := Fm25.keep K30q (ninS ne25_oa nin0)
          have Z30 : n0 ≤ T30.heap.size := Nat.le_trans Z25 K30q.1
          have KK30 := KK25.trans K30q (allS (Or.inr sz_b25) all0)
          have O30 := O25.keep K30q (allS ge25 all0)
          show Own.Fin p e below (T30.setTop (mkF m 86 #[.val (.ref oa), .val (.ref ra), .val (.int (Int32.ofNat sN)), .val (.int (Int32.ofNat eN)), .val (.int (Int32.ofNat (n + j))), .val (.ref va), .val (.int (Int32.ofNat (sN + j))), .val (.int (Int32.ofNat (n + j))), .val (.int (Int32.ofNat (cc (sN + j))))] [])) _
          refine Own.go (fun t k => XS.aloadN X30.here hx rfl (hb hby d15_86) rfl rfl k) ?_
          show Own.Fin p e below (T30.setTop (mkF m 87 #[.val (.ref oa), .val (.ref ra), .val (.int (Int32.ofNat sN)), .val (.int (Int32.ofNat eN)), .val (.int (Int32.ofNat (n + j))), .val (.ref va), .val (.int (Int32.ofNat (sN + j))), .val (.int (Int32.ofNat (n + j))), .val (.int (Int32.ofNat (cc (sN + j))))] [(.ref oa)])) _
          refine Own.go (fun t k => XS.iload X30.here hx rfl (hb hby d15_87) rfl k) ?_
          show Own.Fin p e below (T30.setTop (mkF m 89 #[.val (.ref oa), .val (.ref ra), .val (.int (Int32.ofNat sN)), .val (.int (Int32.ofNat eN)), .val (.int (Int32.ofNat (n + j))), .val (.ref va), .val (.int (Int32.ofNat (sN + j))), .val (.int (Int32.ofNat (n + j))), .val (.int (Int32.ofNat (cc (sN + j))))] [(.int (Int32.ofNat (n + j))), (.ref oa)])) _
          refine Own.go (fun t k => XS.iloadN X30.here hx rfl (hb hby d15_89) rfl k) ?_
          show Own.Fin p e below (T30.setTop (mkF m 90 #[.val (.ref oa), .val (.ref ra), .val (.int (Int32.ofNat sN)), .val (.int (Int32.ofNat eN)), .val (.int (Int32.ofNat (n + j))), .val (.ref va), .val (.int (Int32.ofNat (sN + j))), .val (.int (Int32.ofNat (n + j))), .val (.int (Int32.ofNat (cc (sN + j))))] [(.int (Int32.ofNat eN)), (.int (Int32.ofNat (n + j))), (.ref oa)])) _
          refine Own.go (fun t k => XS.iadd X30.here hx rfl (hb hby d15_90) rfl k) ?_
          show Own.Fin p e below (T30.setTop (mkF m 91 #[.val (.ref oa), .val (.ref ra), .val (.int (Int32.ofNat sN)), .val (.int (Int32.ofNat eN)), .val (.int (Int32.ofNat (n + j))), .val (.ref va), .val (.int (Int32.ofNat (sN + j))), .val (.int (Int32.ofNat (n + j))), .val (.int (Int32.ofNat (cc (sN + j))))] [(.int ((Int32.ofNat (n + j)) + (Int32.ofNat eN))), (.ref oa)])) _
          refine Own.go (fun t k => XS.iload X30.here hx rfl (hb hby d15_91) rfl k) ?_
          show Own.Fin p e below (T30.setTop (mkF m 93 #[.val (.ref oa), .val (.ref ra), .val (.int (Int32.ofNat sN)), .val (.int (Int32.ofNat eN)), .val (.int (Int32.ofNat (n + j))), .val (.ref va), .val (.int (Int32.ofNat (sN + j))), .val (.int (Int32.ofNat (n + j))), .val (.int (Int32.ofNat (cc (sN + j))))] [(.int (Int32.ofNat (sN + j))), (.int ((Int32.ofNat (n + j)) + (Int32.ofNat eN))), (.ref oa)])) _
          refine Own.go (fun t k => XS.isub X30.here hx rfl (hb hby d15_93) rfl k) ?_
          show Own.Fin p e below (T30.setTop (mkF m 94 #[.val (.ref oa), .val (.ref ra), .val (.int (Int32.ofNat sN)), .val (.int (Int32.ofNat eN)), .val (.int (Int32.ofNat (n + j))), .val (.ref va), .val (.int (Int32.ofNat (sN + j))), .val (.int (Int32.ofNat (n + j))), .val (.int (Int32.ofNat (cc (sN + j))))] [(.int (((Int32.ofNat (n + j)) + (Int32.ofNat eN)) - (Int32.ofNat (sN + j)))), (.ref oa)])) _
          rw [show (((Int32.ofNat (n + j)) + (Int32.ofNat eN)) - (Int32.ofNat (sN + j))) = (Int32.ofNat (n + (eN - sN))) from (by rw [← Int32.ofNat_add, ← Int32.ofNat_sub _ _ (by omega)]; congr 1; omega)]
          show Own.Fin p e below (T30.setTop (mkF m 94 #[.val (.ref oa), .val (.ref ra), .val (.int (Int32.ofNat sN)), .val (.int (Int32.ofNat eN)), .val (.int (Int32.ofNat (n + j))), .val (.ref va), .val (.int (Int32.ofNat (sN + j))), .val (.int (Int32.ofNat (n + j))), .val (.int (Int32.ofNat (cc (sN + j))))] [(.int (Int32.ofNat (n + (eN - sN)))), (.ref oa)])) _
          obtain ⟨T38, h38, X38, e38, W38, st38⟩ := putF X30 hx hZ hown (host := "") (Or.inl (hw _ (List.mem_of_getElem? (i := 109) rfl))) Via.refl rfl f36 f31 (Or.inl (hw _ (List.mem_of_getElem? (i := 110) rfl))) (hw _ (List.mem_of_getElem? (i := 63) rfl)) (ty := .int) (by decide) rfl rfl (g := (mkF m 94 #[.val (.ref oa), .val (.ref ra), .val (.int (Int32.ofNat sN)), .val (.int (Int32.ofNat eN)), .val (.int (Int32.ofNat (n + j))), .val (.ref va), .val (.int (Int32.ofNat (sN + j))), .val (.int (Int32.ofNat (n + j))), .val (.int (Int32.ofNat (cc (sN + j))))] [(.int (Int32.ofNat (n + (eN - sN)))), (.ref oa)])) rfl rfl (hb hby d15_94)
          refine Own.go st38 ?_
          have f39 := f36.same W38
          have N38 := Fr.snoc X38 N30 ga
          have Z38 : n0 ≤ h38.size := by rw [W38.size]; exact Z30
          have f40 := f31.wr W38
          have f41 := f32.other W38 hro
          have f42 := f33.other W38 (Ne.symm hov)
          have f43 := f34.other W38 (Or.inr (slot_ne (Or.inl (hw _ (List.mem_of_getElem? (i := 77) rfl))) (Or.inl (hw _ (List.mem_of_getElem? (i := 110) rfl))) (by decide) (t := (.array .byte)) (t' := .int) (by decide) (by decide)))
          have f44 := f35.other W38 (Or.inr (slot_ne (Or.inl (hw _ (List.mem_of_getElem? (i := 79) rfl))) (Or.inl (hw _ (List.mem_of_getElem? (i := 110) rfl))) (by decide) (t := .byte) (t' := .int) (by decide) (by decide)))
          have f45 := f37.other W38 (Or.inr (slot_ne (Or.inl (hw _ (List.mem_of_getElem? (i := 269) rfl))) (Or.inl (hw _ (List.mem_of_getElem? (i := 110) rfl))) (by decide) (t := .boolean) (t' := .int) (by decide) (by decide)))
          have f46 := V30.other W38 (Ne.symm ne25_oa)
          have K38 := KK30.wr W38 (Or.inl (List.mem_cons_self ..))
          have O38 := O30.wr W38 ga
          show Own.Fin p e below (T38.setTop (mkF m 97 #[.val (.ref oa), .val (.ref ra), .val (.int (Int32.ofNat sN)), .val (.int (Int32.ofNat eN)), .val (.int (Int32.ofNat (n + j))), .val (.ref va), .val (.int (Int32.ofNat (sN + j))), .val (.int (Int32.ofNat (n + j))), .val (.int (Int32.ofNat (cc (sN + j))))] [])) _
          refine Own.retV X38 hx Bd.notSynchronized Bd.returns (hb hby d15_97) (by decide) (by decide) ?_
          exact ⟨b25, rfl, N38, by rw [e38]; exact K38, ge25, ne25_oa, Or.inr sz_b25, by rw [e38]; exact ⟨f40, f39, f45, f43, Or.inr ⟨_, _, f44, f46, by have q := u16_app hU25 hA30; rw [show n + j + (eN - (sN + j)) = n + (eN - sN) by omega] at q; exact q⟩⟩⟩
        · skip
          refine Own.go (fun t k => XS.ifNo X15.here hx rfl (hb hby d15_43) rfl ((if0 _ _).trans (feq hc43_15).1) k) ?_
          show Own.Fin p e below (T15.setTop (mkF m 46 #[.val (.ref oa), .val (.ref ra), .val (.int (Int32.ofNat sN)), .val (.int (Int32.ofNat eN)), .val (.int (Int32.ofNat n)), .val (.ref va), .val (.int (Int32.ofNat (sN + j))), .val (.int (Int32.ofNat (n + j))), .val (.int (Int32.ofNat (cc (sN + j))))] [])) _
          refine Own.go (fun t k => XS.aload X15.here hx rfl (hb hby d15_46) rfl rfl k) ?_
          show Own.Fin p e below (T15.setTop (mkF m 48 #[.val (.ref oa), .val (.ref ra), .val (.int (Int32.ofNat sN)), .val (.int (Int32.ofNat eN)), .val (.int (Int32.ofNat n)), .val (.ref va), .val (.int (Int32.ofNat (sN + j))), .val (.int (Int32.ofNat (n + j))), .val (.int (Int32.ofNat (cc (sN + j))))] [(.ref va)])) _
          refine Own.go (fun t k => XS.iload X15.here hx rfl (hb hby d15_48) rfl k) ?_
          show Own.Fin p e below (T15.setTop (mkF m 50 #[.val (.ref oa), .val (.ref ra), .val (.int (Int32.ofNat sN)), .val (.int (Int32.ofNat eN)), .val (.int (Int32.ofNat n)), .val (.ref va), .val (.int (Int32.ofNat (sN + j))), .val (.int (Int32.ofNat (n + j))), .val (.int (Int32.ofNat (cc (sN + j))))] [(.int (Int32.ofNat (n + j))), (.ref va)])) _
          refine Own.go (fun t k => XS.iinc X15.here hx rfl (hb hby d15_50) rfl (l' := #[.val (.ref oa), .val (.ref ra), .val (.int (Int32.ofNat sN)), .val (.int (Int32.ofNat eN)), .val (.int (Int32.ofNat n)), .val (.ref va), .val (.int (Int32.ofNat (sN + j))), .val (.int ((Int32.ofNat (n + j)) + (1 : Int32))), .val (.int (Int32.ofNat (cc (sN + j))))]) rfl k) ?_
          show Own.Fin p e below (T15.setTop (mkF m 53 #[.val (.ref oa), .val (.ref ra), .val (.int (Int32.ofNat sN)), .val (.int (Int32.ofNat eN)), .val (.int (Int32.ofNat n)), .val (.ref va), .val (.int (Int32.ofNat (sN + j))), .val (.int ((Int32.ofNat (n + j)) + (1 : Int32))), .val (.int (Int32.ofNat (cc (sN + j))))] [(.int (Int32.ofNat (n + j))), (.ref va)])) _
          rw [show (((Int32.ofNat (n + j)) + (1 : Int32)) : Int32) = (Int32.ofNat (n + (j + 1))) from (Int32.ofNat_add (n + j) 1).symm]
          show Own.Fin p e below (T15.setTop (mkF m 53 #[.val (.ref oa), .val (.ref ra), .val (.int (Int32.ofNat sN)), .val (.int (Int32.ofNat eN)), .val (.int (Int32.ofNat n)), .val (.ref va), .val (.int (Int32.ofNat (sN + j))), .val (.int (Int32.ofNat (n + (j + 1)))), .val (.int (Int32.ofNat (cc (sN + j))))] [(.int (Int32.ofNat (n + j))), (.ref va)])) _
          refine Own.go (fun t k => XS.iload X15.here hx rfl (hb hby d15_53) rfl k) ?_
          show Own.Fin p e below (T15.setTop (mkF m 55 #[.val (.ref oa), .val (.ref ra), .val (.int (Int32.ofNat sN)), .val (.int (Int32.ofNat eN)), .val (.int (Int32.ofNat n)), .val (.ref va), .val (.int (Int32.ofNat (sN + j))), .val (.int (Int32.ofNat (n + (j + 1)))), .val (.int (Int32.ofNat (cc (sN + j))))] [(.int (Int32.ofNat (cc (sN + j)))), (.int (Int32.ofNat (n + j))), (.ref va)])) _
          refine Own.go (fun t k => XS.i2b X15.here hx rfl (hb hby d15_55) rfl k) ?_
          show Own.Fin p e below (T15.setTop (mkF m 56 #[.val (.ref oa), .val (.ref ra), .val (.int (Int32.ofNat sN)), .val (.int (Int32.ofNat eN)), .val (.int (Int32.ofNat n)), .val (.ref va), .val (.int (Int32.ofNat (sN + j))), .val (.int (Int32.ofNat (n + (j + 1)))), .val (.int (Int32.ofNat (cc (sN + j))))] [(.int (((Int32.ofNat (cc (sN + j)))).toInt8.toInt32)), (.int (Int32.ofNat (n + j))), (.ref va)])) _
          refine stBT X15 hx hZ e15 Vj6 (hb hby d15_56) rfl (by decide) (n + j) rfl (by omega) ?_
          intro T47 h47 X47 e47 W47 V47
          have N47 := Fr.snoc X47 N15 gva
          have Z47 : n0 ≤ h47.size := by rw [W47.size]; exact Zj
          have f48 := Vj0.wr W47
          have f49 := Vj1.other W47 (Or.inl hov)
          have f50 := Vj2.other W47 (Or.inl hov)
          have f51 := Vj3.other W47 (Or.inl hov)
          have f52 := Vj4.other W47 (Or.inl hov)
          have f53 := Vj5.other W47 hrv
          have K47 := Kj.wr W47 (Or.inl (List.mem_cons_of_mem _ (List.mem_cons_self ..)))
          have O47 := Oj.wr W47 gva
          generalize hg47 : upd g _ _ = g47 at V47
          show Own.Fin p e below (T47.setTop (mkF m 57 #[.val (.ref oa), .val (.ref ra), .val (.int (Int32.ofNat sN)), .val (.int (Int32.ofNat eN)), .val (.int (Int32.ofNat n)), .val (.ref va), .val (.int (Int32.ofNat (sN + j))), .val (.int (Int32.ofNat (n + (j + 1)))), .val (.int (Int32.ofNat (cc (sN + j))))] [])) _
          refine Own.go (fun t k => XS.goto X47.here hx rfl (pc0 := 57) (pc' := 98) rfl (hb hby d15_57) (by decide) (by decide) k) ?_
          show Own.Fin p e below (T47.setTop (mkF m 98 #[.val (.ref oa), .val (.ref ra), .val (.int (Int32.ofNat sN)), .val (.int (Int32.ofNat eN)), .val (.int (Int32.ofNat n)), .val (.ref va), .val (.int (Int32.ofNat (sN + j))), .val (.int (Int32.ofNat (n + (j + 1)))), .val (.int (Int32.ofNat (cc (sN + j))))] [])) _
          refine Own.go (fun t k => XS.iinc X47.here hx rfl (hb hby d15_98) rfl (l' := #[.val (.ref oa), .val (.ref ra), .val (.int (Int32.ofNat sN)), .val (.int (Int32.ofNat eN)), .val (.int (Int32.ofNat n)), .val (.ref va), .val (.int ((Int32.ofNat (sN + j)) + (1 : Int32))), .val (.int (Int32.ofNat (n + (j + 1)))), .val (.int (Int32.ofNat (cc (sN + j))))]) rfl k) ?_
          show Own.Fin p e below (T47.setTop (mkF m 101 #[.val (.ref oa), .val (.ref ra), .val (.int (Int32.ofNat sN)), .val (.int (Int32.ofNat eN)), .val (.int (Int32.ofNat n)), .val (.ref va), .val (.int ((Int32.ofNat (sN + j)) + (1 : Int32))), .val (.int (Int32.ofNat (n + (j + 1)))), .val (.int (Int32.ofNat (cc (sN + j))))] [])) _
          rw [show (((Int32.ofNat (sN + j)) + (1 : Int32)) : Int32) = (Int32.ofNat (sN + (j + 1))) from (Int32.ofNat_add (sN + j) 1).symm]
          show Own.Fin p e below (T47.setTop (mkF m 101 #[.val (.ref oa), .val (.ref ra), .val (.int (Int32.ofNat sN)), .val (.int (Int32.ofNat eN)), .val (.int (Int32.ofNat n)), .val (.ref va), .val (.int (Int32.ofNat (sN + (j + 1)))), .val (.int (Int32.ofNat (n + (j + 1)))), .val (.int (Int32.ofNat (cc (sN + j))))] [])) _
          refine Own.go (fun t k => XS.goto X47.here hx rfl (pc0 := 101) (pc' := 26) rfl (hb hby d15_101) (by decide) (by decide) k) ?_
          show Own.Fin p e below (T47.setTop (mkF m 26 #[.val (.ref oa), .val (.ref ra), .val (.int (Int32.ofNat sN)), .val (.int (Int32.ofNat eN)), .val (.int (Int32.ofNat n)), .val (.ref va), .val (.int (Int32.ofNat (sN + (j + 1)))), .val (.int (Int32.ofNat (n + (j + 1)))), .val (.int (Int32.ofNat (cc (sN + j))))] [])) _
          exact ih (j + 1) (by omega) _ _ _ _ X47 e47 N47 Z47 O47 K47 f48 f49 f50 f51 f52 f53 V47 _ (Or.inr ⟨_, rfl⟩) (lat_step hl hg47 (own_nb _ (own_can _ (hcc _) hc43_15)) (own_can _ (hcc _) hc43_15))
    show Own.Fin p e below (T4.setTop (mkF m 26 #[.val (.ref oa), .val (.ref ra), .val (.int (Int32.ofNat sN)), .val (.int (Int32.ofNat eN)), .val (.int (Int32.ofNat n)), .val (.ref va), .val (.int (Int32.ofNat (sN + 0))), .val (.int (Int32.ofNat (n + 0))), .unset] [])) _
    exact loop1 (eN - sN) 0 (by omega) _ _ _ _ X4 e4 N2 Z0 O0 (Keep.refl h0 [oa, va]) E0 F_value F_coder F_count F_maybeLatin1 VC VA _ (Or.inl rfl) (lat_0 hA)
  · skip
    show Own.Fin p e below (s₁.setTop (mkF m 0 #[.val (.ref oa), .val (.ref ra), .val (.int (Int32.ofNat sN)), .val (.int (Int32.ofNat eN)), .unset, .unset, .unset, .unset, .unset] [])) _
    refine Own.go (fun t k => XS.aloadN X0.here hx rfl (hb hby d15_0) rfl rfl k) ?_
    show Own.Fin p e below (s₁.setTop (mkF m 1 #[.val (.ref oa), .val (.ref ra), .val (.int (Int32.ofNat sN)), .val (.int (Int32.ofNat eN)), .unset, .unset, .unset, .unset, .unset] [(.ref oa)])) _
    obtain ⟨T54, X54, e54, st54⟩ := getF X0 hx hZ hown (host := "") (Or.inl (hw _ (List.mem_of_getElem? (i := 109) rfl))) Via.refl e0 F_count (g := (mkF m 1 #[.val (.ref oa), .val (.ref ra), .val (.int (Int32.ofNat sN)), .val (.int (Int32.ofNat eN)), .unset, .unset, .unset, .unset, .unset] [(.ref oa)])) rfl rfl (hb hby d15_1)
    refine Own.go st54 ?_
    show Own.Fin p e below (T54.setTop (mkF m 4 #[.val (.ref oa), .val (.ref ra), .val (.int (Int32.ofNat sN)), .val (.int (Int32.ofNat eN)), .unset, .unset, .unset, .unset, .unset] [(.int (Int32.ofNat n))])) _
    refine Own.go (fun t k => XS.istore X54.here hx rfl (hb hby d15_4) rfl (l' := #[.val (.ref oa), .val (.ref ra), .val (.int (Int32.ofNat sN)), .val (.int (Int32.ofNat eN)), .val (.int (Int32.ofNat n)), .unset, .unset, .unset, .unset]) rfl k) ?_
    show Own.Fin p e below (T54.setTop (mkF m 6 #[.val (.ref oa), .val (.ref ra), .val (.int (Int32.ofNat sN)), .val (.int (Int32.ofNat eN)), .val (.int (Int32.ofNat n)), .unset, .unset, .unset, .unset] [])) _
    refine Own.go (fun t k => XS.aloadN X54.here hx rfl (hb hby d15_6) rfl rfl k) ?_
    show Own.Fin p e below (T54.setTop (mkF m 7 #[.val (.ref oa), .val (.ref ra), .val (.int (Int32.ofNat sN)), .val (.int (Int32.ofNat eN)), .val (.int (Int32.ofNat n)), .unset, .unset, .unset, .unset] [(.ref oa)])) _
    refine Own.cV X54 hx hZ hown (hw _ (List.mem_of_getElem? (i := 121) rfl)) (hw _ (List.mem_of_getElem? (i := 122) rfl)) (notFace_of_selects (args := #[]) (mvT hZ (hw _ (List.mem_of_getElem? (i := 124) rfl)))) (hw _ (List.mem_of_getElem? (i := 124) rfl)) (hw _ (List.mem_of_getElem? (i := 123) rfl)) (hw _ (List.mem_of_getElem? (i := 72) rfl)) (hw _ (List.mem_of_getElem? (i := 125) rfl)) (by decide) (rm16 l Z a0 hw [] oa cs (1 : Int32) h0 n0 Z0 O0 SC hcs F_coder) (by decide) (W := 0) (by decide) (argsL := []) (rest := []) E0 (by rw [hml]; rfl) (lenOf pd_12 rfl) rfl (Nat.le_of_eq rfl) (hb hby d15_7) e54 (by decide) (by decide) ?_
    intro T55 L55 v55 X55 hQ55
    obtain ⟨rfl, N55q, e55⟩ := hQ55
    have N55 := Fr.app N0 N55q
    show Own.Fin p e below (T55.setTop (mkF m 10 #[.val (.ref oa), .val (.ref ra), .val (.int (Int32.ofNat sN)), .val (.int (Int32.ofNat eN)), .val (.int (Int32.ofNat n)), .unset, .unset, .unset, .unset] [(.int (F_isl (1 : Int32)))])) _
    have hc10_55 : (F_isl (1 : Int32)) = (0 : Int32) := by decide
    refine Own.go (fun t k => XS.ifYes X55.here hx rfl (pc0 := 10) (pc' := 107) rfl (hb hby d15_10) rfl ((if0 _ _).trans (teq hc10_55).1) (by decide) (by decide) k) ?_
    show Own.Fin p e below (T55.setTop (mkF m 107 #[.val (.ref oa), .val (.ref ra), .val (.int (Int32.ofNat sN)), .val (.int (Int32.ofNat eN)), .val (.int (Int32.ofNat n)), .unset, .unset, .unset, .unset] [])) _
    refine Own.go (fun t k => XS.aloadN X55.here hx rfl (hb hby d15_107) rfl rfl k) ?_
    show Own.Fin p e below (T55.setTop (mkF m 108 #[.val (.ref oa), .val (.ref ra), .val (.int (Int32.ofNat sN)), .val (.int (Int32.ofNat eN)), .val (.int (Int32.ofNat n)), .unset, .unset, .unset, .unset] [(.ref oa)])) _
    obtain ⟨T57, X57, e57, st57⟩ := getF X55 hx hZ hown (host := "") (Or.inl (hw _ (List.mem_of_getElem? (i := 76) rfl))) Via.refl e55 F_value (g := (mkF m 108 #[.val (.ref oa), .val (.ref ra), .val (.int (Int32.ofNat sN)), .val (.int (Int32.ofNat eN)), .val (.int (Int32.ofNat n)), .unset, .unset, .unset, .unset] [(.ref oa)])) rfl rfl (hb hby d15_108)
    refine Own.go st57 ?_
    show Own.Fin p e below (T57.setTop (mkF m 111 #[.val (.ref oa), .val (.ref ra), .val (.int (Int32.ofNat sN)), .val (.int (Int32.ofNat eN)), .val (.int (Int32.ofNat n)), .unset, .unset, .unset, .unset] [(.ref va)])) _
    refine Own.go (fun t k => XS.iload X57.here hx rfl (hb hby d15_111) rfl k) ?_
    show Own.Fin p e below (T57.setTop (mkF m 113 #[.val (.ref oa), .val (.ref ra), .val (.int (Int32.ofNat sN)), .val (.int (Int32.ofNat eN)), .val (.int (Int32.ofNat n)), .unset, .unset, .unset, .unset] [(.int (Int32.ofNat n)), (.ref va)])) _
    refine Own.go (fun t k => XS.aloadN X57.here hx rfl (hb hby d15_113) rfl rfl k) ?_
    show Own.Fin p e below (T57.setTop (mkF m 114 #[.val (.ref oa), .val (.ref ra), .val (.int (Int32.ofNat sN)), .val (.int (Int32.ofNat eN)), .val (.int (Int32.ofNat n)), .unset, .unset, .unset, .unset] [(.ref ra), (.int (Int32.ofNat n)), (.ref va)])) _
    refine Own.go (fun t k => XS.iloadN X57.here hx rfl (hb hby d15_114) rfl k) ?_
    show Own.Fin p e below (T57.setTop (mkF m 115 #[.val (.ref oa), .val (.ref ra), .val (.int (Int32.ofNat sN)), .val (.int (Int32.ofNat eN)), .val (.int (Int32.ofNat n)), .unset, .unset, .unset, .unset] [(.int (Int32.ofNat sN)), (.ref ra), (.int (Int32.ofNat n)), (.ref va)])) _
    refine Own.go (fun t k => XS.iloadN X57.here hx rfl (hb hby d15_115) rfl k) ?_
    show Own.Fin p e below (T57.setTop (mkF m 116 #[.val (.ref oa), .val (.ref ra), .val (.int (Int32.ofNat sN)), .val (.int (Int32.ofNat eN)), .val (.int (Int32.ofNat n)), .unset, .unset, .unset, .unset] [(.int (Int32.ofNat eN)), (.int (Int32.ofNat sN)), (.ref ra), (.int (Int32.ofNat n)), (.ref va)])) _
    refine Own.cS X57 hx hZ hown (hw _ (List.mem_of_getElem? (i := 249) rfl)) (hw _ (List.mem_of_getElem? (i := 250) rfl)) (hw _ (List.mem_of_getElem? (i := 225) rfl)) (hw _ (List.mem_of_getElem? (i := 251) rfl)) (by decide) (rm46 l Z a0 hw [] va (Int32.ofNat n) ra (Int32.ofNat sN) (Int32.ofNat eN) fs_ kC kA gA n sN eN cc h0 n0 Z0 O0 SD SH SL SF hc_s VA VC hrv gva rfl rfl rfl (by omega) he4 (by omega) hcc) (by decide) (W := 0) (by decide) (argsL := [(.ref va), (.int (Int32.ofNat n)), (.ref ra), (.int (Int32.ofNat sN)), (.int (Int32.ofNat eN))]) (rest := []) (by rw [hml]; rfl) (lenOf pd_10 rfl) rfl (Nat.le_of_eq rfl) (hb hby d15_116) e57 (by decide) (by decide) ?_
    intro T58 L58 v58 X58 hQ58
    obtain ⟨g58, rfl, N58q, K58q, V58, hA58⟩ := hQ58
    have N58 := Fr.app N55 N58q
    have f59 := E0.keep K58q
    have f60 := F_value.keep K58q (ninS hov nin0)
    have f61 := F_coder.keep K58q (ninS hov nin0)
    have f62 := F_count.keep K58q (ninS hov nin0)
    have f63 := F_maybeLatin1.keep K58q (ninS hov nin0)
    have f64 := VC.keep K58q (ninS hrv nin0)
    have Z58 : n0 ≤ T58.heap.size := Nat.le_trans Z0 K58q.1
    have KK58 := (Keep.refl h0 [oa, va]).trans K58q (allS (Or.inl (List.mem_cons_of_mem _ (List.mem_cons_self ..))) all0)
    have O58 := O0.keep K58q (allS gva all0)
    show Own.Fin p e below (T58.setTop (mkF m 119 #[.val (.ref oa), .val (.ref ra), .val (.int (Int32.ofNat sN)), .val (.int (Int32.ofNat eN)), .val (.int (Int32.ofNat n)), .unset, .unset, .unset, .unset] [])) _
    refine Own.go (fun t k => XS.aloadN X58.here hx rfl (hb hby d15_119) rfl rfl k) ?_
    show Own.Fin p e below (T58.setTop (mkF m 120 #[.val (.ref oa), .val (.ref ra), .val (.int (Int32.ofNat sN)), .val (.int (Int32.ofNat eN)), .val (.int (Int32.ofNat n)), .unset, .unset, .unset, .unset] [(.ref oa)])) _
    refine Own.go (fun t k => XS.iload X58.here hx rfl (hb hby d15_120) rfl k) ?_
    show Own.Fin p e below (T58.setTop (mkF m 122 #[.val (.ref oa), .val (.ref ra), .val (.int (Int32.ofNat sN)), .val (.int (Int32.ofNat eN)), .val (.int (Int32.ofNat n)), .unset, .unset, .unset, .unset] [(.int (Int32.ofNat n)), (.ref oa)])) _
    refine Own.go (fun t k => XS.iloadN X58.here hx rfl (hb hby d15_122) rfl k) ?_
    show Own.Fin p e below (T58.setTop (mkF m 123 #[.val (.ref oa), .val (.ref ra), .val (.int (Int32.ofNat sN)), .val (.int (Int32.ofNat eN)), .val (.int (Int32.ofNat n)), .unset, .unset, .unset, .unset] [(.int (Int32.ofNat eN)), (.int (Int32.ofNat n)), (.ref oa)])) _
    refine Own.go (fun t k => XS.iadd X58.here hx rfl (hb hby d15_123) rfl k) ?_
    show Own.Fin p e below (T58.setTop (mkF m 124 #[.val (.ref oa), .val (.ref ra), .val (.int (Int32.ofNat sN)), .val (.int (Int32.ofNat eN)), .val (.int (Int32.ofNat n)), .unset, .unset, .unset, .unset] [(.int ((Int32.ofNat n) + (Int32.ofNat eN))), (.ref oa)])) _
    refine Own.go (fun t k => XS.iloadN X58.here hx rfl (hb hby d15_124) rfl k) ?_
    show Own.Fin p e below (T58.setTop (mkF m 125 #[.val (.ref oa), .val (.ref ra), .val (.int (Int32.ofNat sN)), .val (.int (Int32.ofNat eN)), .val (.int (Int32.ofNat n)), .unset, .unset, .unset, .unset] [(.int (Int32.ofNat sN)), (.int ((Int32.ofNat n) + (Int32.ofNat eN))), (.ref oa)])) _
    refine Own.go (fun t k => XS.isub X58.here hx rfl (hb hby d15_125) rfl k) ?_
    show Own.Fin p e below (T58.setTop (mkF m 126 #[.val (.ref oa), .val (.ref ra), .val (.int (Int32.ofNat sN)), .val (.int (Int32.ofNat eN)), .val (.int (Int32.ofNat n)), .unset, .unset, .unset, .unset] [(.int (((Int32.ofNat n) + (Int32.ofNat eN)) - (Int32.ofNat sN))), (.ref oa)])) _
    rw [show (((Int32.ofNat n) + (Int32.ofNat eN)) - (Int32.ofNat sN)) = (Int32.ofNat (n + (eN - sN))) from (by rw [← Int32.ofNat_add, ← Int32.ofNat_sub _ _ (by omega)]; congr 1; omega)]
    show Own.Fin p e below (T58.setTop (mkF m 126 #[.val (.ref oa), .val (.ref ra), .val (.int (Int32.ofNat sN)), .val (.int (Int32.ofNat eN)), .val (.int (Int32.ofNat n)), .unset, .unset, .unset, .unset] [(.int (Int32.ofNat (n + (eN - sN)))), (.ref oa)])) _
    obtain ⟨T65, h65, X65, e65, W65, st65⟩ := putF X58 hx hZ hown (host := "") (Or.inl (hw _ (List.mem_of_getElem? (i := 109) rfl))) Via.refl rfl f62 f59 (Or.inl (hw _ (List.mem_of_getElem? (i := 110) rfl))) (hw _ (List.mem_of_getElem? (i := 63) rfl)) (ty := .int) (by decide) rfl rfl (g := (mkF m 126 #[.val (.ref oa), .val (.ref ra), .val (.int (Int32.ofNat sN)), .val (.int (Int32.ofNat eN)), .val (.int (Int32.ofNat n)), .unset, .unset, .unset, .unset] [(.int (Int32.ofNat (n + (eN - sN)))), (.ref oa)])) rfl rfl (hb hby d15_126)
    refine Own.go st65 ?_
    have f66 := f62.same W65
    have N65 := Fr.snoc X65 N58 ga
    have Z65 : n0 ≤ h65.size := by rw [W65.size]; exact Z58
    have f67 := f59.wr W65
    have f68 := f60.other W65 (Or.inr (slot_ne (Or.inl (hw _ (List.mem_of_getElem? (i := 77) rfl))) (Or.inl (hw _ (List.mem_of_getElem? (i := 110) rfl))) (by decide) (t := (.array .byte)) (t' := .int) (by decide) (by decide)))
    have f69 := f61.other W65 (Or.inr (slot_ne (Or.inl (hw _ (List.mem_of_getElem? (i := 79) rfl))) (Or.inl (hw _ (List.mem_of_getElem? (i := 110) rfl))) (by decide) (t := .byte) (t' := .int) (by decide) (by decide)))
    have f70 := f63.other W65 (Or.inr (slot_ne (Or.inl (hw _ (List.mem_of_getElem? (i := 269) rfl))) (Or.inl (hw _ (List.mem_of_getElem? (i := 110) rfl))) (by decide) (t := .boolean) (t' := .int) (by decide) (by decide)))
    have f71 := f64.other W65 hro
    have f72 := V58.other W65 (Ne.symm hov)
    have K65 := KK58.wr W65 (Or.inl (List.mem_cons_self ..))
    have O65 := O58.wr W65 ga
    show Own.Fin p e below (T65.setTop (mkF m 129 #[.val (.ref oa), .val (.ref ra), .val (.int (Int32.ofNat sN)), .val (.int (Int32.ofNat eN)), .val (.int (Int32.ofNat n)), .unset, .unset, .unset, .unset] [])) _
    refine Own.retV X65 hx Bd.notSynchronized Bd.returns (hb hby d15_129) (by decide) (by decide) ?_
    exact ⟨va, rfl, N65, by rw [e65]; exact K65, gva, hov, Or.inl rfl, by rw [e65]; exact ⟨f67, f66, f70, f68, Or.inr ⟨_, _, f69, f72, u16_app (j := 0) (u16_0 hU) hA58⟩⟩⟩
theorem own_cap : ∀ m < 17, ¬ (0 : Int32) < (Int32.ofNat m - ((16 : Int32) >>> ((0 : Int32) &&& 31))) ∧ ¬ (0 : Int32) < (Int32.ofNat m - ((32 : Int32) >>> ((1 : Int32) &&& 31))) := by decide +kernel
theorem d12_0 : decode jdk_68_method_29_code 0 = .ok (.iload_n 2, 1) := by decide +kernel
theorem d12_1 : decode jdk_68_method_29_code 1 = .ok (.iload_n 3, 1) := by decide +kernel
theorem d12_2 : decode jdk_68_method_29_code 2 = .ok (.iadd, 1) := by decide +kernel
theorem d12_3 : decode jdk_68_method_29_code 3 = .ok (.istore 4, 2) := by decide +kernel
theorem d12_5 : decode jdk_68_method_29_code 5 = .ok (.iload_n 2, 1) := by decide +kernel
theorem d12_6 : decode jdk_68_method_29_code 6 = .ok (.iload 4, 2) := by decide +kernel
theorem d12_8 : decode jdk_68_method_29_code 8 = .ok (.aload_n 1, 1) := by decide +kernel
theorem d12_9 : decode jdk_68_method_29_code 9 = .ok (.arraylength, 1) := by decide +kernel
theorem d12_10 : decode jdk_68_method_29_code 10 = .ok (.getstatic 183, 3) := by decide +kernel
theorem d12_13 : decode jdk_68_method_29_code 13 = .ok (.invokestatic 161, 3) := by decide +kernel
theorem d12_16 : decode jdk_68_method_29_code 16 = .ok (.pop, 1) := by decide +kernel
theorem d12_17 : decode jdk_68_method_29_code 17 = .ok (.aload_n 0, 1) := by decide +kernel
theorem d12_18 : decode jdk_68_method_29_code 18 = .ok (.aload_n 0, 1) := by decide +kernel
theorem d12_19 : decode jdk_68_method_29_code 19 = .ok (.getfield 79, 3) := by decide +kernel
theorem d12_22 : decode jdk_68_method_29_code 22 = .ok (.iload_n 3, 1) := by decide +kernel
theorem d12_23 : decode jdk_68_method_29_code 23 = .ok (.iadd, 1) := by decide +kernel
theorem d12_24 : decode jdk_68_method_29_code 24 = .ok (.invokevirtual 100, 3) := by decide +kernel
theorem d12_27 : decode jdk_68_method_29_code 27 = .ok (.aload_n 0, 1) := by decide +kernel
theorem d12_28 : decode jdk_68_method_29_code 28 = .ok (.aload_n 1, 1) := by decide +kernel
theorem d12_29 : decode jdk_68_method_29_code 29 = .ok (.iload_n 2, 1) := by decide +kernel
theorem d12_30 : decode jdk_68_method_29_code 30 = .ok (.iload 4, 2) := by decide +kernel
theorem d12_32 : decode jdk_68_method_29_code 32 = .ok (.invokevirtual 239, 3) := by decide +kernel
theorem d12_35 : decode jdk_68_method_29_code 35 = .ok (.aload_n 0, 1) := by decide +kernel
theorem d12_36 : decode jdk_68_method_29_code 36 = .ok (.areturn, 1) := by decide +kernel
theorem pd_16 : parseMethodDescriptor "(I)V" = some ⟨[.int], none⟩ := by decide +kernel
theorem pd_17 : parseMethodDescriptor "([CII)V" = some ⟨[(.array .char), .int, .int], none⟩ := by decide +kernel
theorem pn_12 : plainName "java/lang/AbstractStringBuilder" = true := by first | (simp [plainName, overriddenIn]; done) | decide +kernel
theorem ef_12 (m : MethodId) (oa : Addr) (ra : Addr) (p3 : Int32) (p4 : Int32)  : entryFrame m #[(.ref oa), (.ref ra), (.int p3), (.int p4)] 5 = mkF m 0 #[.val (.ref oa), .val (.ref ra), .val (.int p3), .val (.int p4), .unset] [] := by first | (simp [entryFrame, mkF, argsToLocals, Value.category]; done) | rfl
def Q12 (Z : State) (oa : Addr) (ra : Addr) (p3 : Int32) (p4 : Int32) (cs : Int32) (fs_ fi_ : Value) (va : Addr) (kC : ClassId) (n sN eN : Nat) (ch cc : Nat → Nat) (h0 : Heap) (n0 : Nat) : Option Value → Heap → List Loc → Prop := fun v h L => ∃ va', v = some (.ref oa) ∧ Fr n0 L ∧ Keep h0 h [oa, va] ∧ n0 ≤ va' ∧ oa ≠ va' ∧ (va' = va ∨ h0.size ≤ va') ∧ SBR Z h oa va' (chA ch cc n sN) (n + (eN - sN))
set_option maxRecDepth 65536 in
set_option maxHeartbeats 40000000 in
theorem rm12 (l : Launch) (Z : State) (a0 : Array Value) (hw : ∀ d ∈ tables_1, d.before a0 Z = true) (ws : List Jvm.Cond) (oa : Addr) (ra : Addr) (p3 : Int32) (p4 : Int32) (cs : Int32) (fs_ fi_ : Value) (va : Addr) (kC : ClassId) (n sN eN : Nat) (ch cc : Nat → Nat) (h0 : Heap) (n0 : Nat) (Z0 : n0 ≤ h0.size) (O0 : Old Z n0 h0) (SC : Sta Z Z.heap "java/lang/String" "COMPACT_STRINGS" "Z" (.int cs)) (SD : Sta Z Z.heap "java/lang/StringUTF16" "$assertionsDisabled" "Z" (.int (1 : Int32))) (SH : Sta Z Z.heap "java/lang/StringUTF16" "HI_BYTE_SHIFT" "I" (.int (0 : Int32))) (SL : Sta Z Z.heap "java/lang/StringUTF16" "LO_BYTE_SHIFT" "I" (.int (8 : Int32))) (SF : Sta Z Z.heap "jdk/internal/util/Preconditions" "SIOOBE_FORMATTER" "Ljava/util/function/BiFunction;" fs_) (SI : Sta Z Z.heap "jdk/internal/util/Preconditions" "IOOBE_FORMATTER" "Ljava/util/function/BiFunction;" fi_) (hcs : ¬ cs = (0 : Int32)) (hc_s : fs_.category = 1) (hc_i : fi_.category = 1) (hR : SBR Z h0 oa va ch n) (gva : n0 ≤ va) (VC : Arv Z h0 ra kC .char (4 : Int32) (tab 4 (fun i => Value.int (Int32.ofNat (cc i)))) (.int (0 : Int32))) (ga : n0 ≤ oa) (hov : oa ≠ va) (hro : ra ≠ oa) (hrv : ra ≠ va) (hse : sN ≤ eN) (he4 : eN ≤ 4) (hn : n + (eN - sN) ≤ 16) (hcc : ∀ i, cc i < 65536) (hp3 : p3 = Int32.ofNat sN) (hp4 : p4 = Int32.ofNat (eN - sN)) :
    MetFree l (⟨"java/lang/AbstractStringBuilder", "append", "([CII)Ljava/lang/AbstractStringBuilder;"⟩ : MethodName) (head1 (Jvm.Cond.code (⟨"java/lang/AbstractStringBuilder", "append", "([CII)Ljava/lang/AbstractStringBuilder;"⟩ : MethodName) jdk_68_method_29_code 5 (some (.object "java/lang/AbstractStringBuilder")) :: ws) ({ frames := 7, cells := 1, slots := 32, locals := 160 } : Room)) (fun a U => a = #[(.ref oa), (.ref ra), (.int p3), (.int p4)] ∧ Z.Warmed39 U.vm ∧ U.heap = h0) (fun _ _ _ _ _ => True) (fun _ U o U' => ∃ v L, o = .returned v ∧ (Q12 Z oa ra p3 p4 cs fs_ fi_ va kC n sN eN ch cc h0 n0) v U'.heap L ∧ FrameEnd U o U' L ({ frames := 7, cells := 1, slots := 32, locals := 160 } : Room).cells ({ frames := 7, cells := 1, slots := 32, locals := 160 } : Room).slots) := by
  refine MetFree.of_bodySF (plainFor_of_name pn_12) hisR ?_
  intro p e s m args below meth c s₁ Bd hml0 hP hK
  obtain ⟨rfl, hZ, hh⟩ := hP
  have hx := Bd.exec
  have hby := Bd.bytes
  have hml : c.maxLocals = 5 := hml0
  have hown : s.vm.findClass "java/lang/AbstractStringBuilder" = some m.cls := findClass_of_methodNamed Bd.named
  have hnm := (name_of_methodNamed Bd.named Bd.method).1
  have X0 : Stand p l e ({ frames := 7, cells := 1, slots := 32, locals := 160 } : Room) s m #[(.ref oa), (.ref ra), (.int p3), (.int p4)] below meth c s₁ [] 0 0 := Stand.of_body Bd
  have e0 : s₁.heap = h0 := by rw [← hh, Bd.state]; rfl
  have N0 := Fr.nil n0
  show Own.Fin p e below _ (Own.Post s (Q12 Z oa ra p3 p4 cs fs_ fi_ va kC n sN eN ch cc h0 n0) ({ frames := 7, cells := 1, slots := 32, locals := 160 } : Room).cells ({ frames := 7, cells := 1, slots := 32, locals := 160 } : Room).slots)
  refine Own.start (ef_12 m oa ra p3 p4) ?_
  show Own.Fin p e below (s₁.setTop (mkF m 0 #[.val (.ref oa), .val (.ref ra), .val (.int p3), .val (.int p4), .unset] [])) _
  have hR0 := hR
  obtain ⟨E0, F_count, F_maybeLatin1, F_value, hor⟩ := hR0
  rw [hp3, hp4]
  rcases hor with ⟨kA, gA, F_coder, VA, hA⟩ | ⟨kA, gA, F_coder, VA, hU⟩
  · skip
    show Own.Fin p e below (s₁.setTop (mkF m 0 #[.val (.ref oa), .val (.ref ra), .val (.int (Int32.ofNat sN)), .val (.int (Int32.ofNat (eN - sN))), .unset] [])) _
    refine Own.go (fun t k => XS.iloadN X0.here hx rfl (hb hby d12_0) rfl k) ?_
    show Own.Fin p e below (s₁.setTop (mkF m 1 #[.val (.ref oa), .val (.ref ra), .val (.int (Int32.ofNat sN)), .val (.int (Int32.ofNat (eN - sN))), .unset] [(.int (Int32.ofNat sN))])) _
    refine Own.go (fun t k => XS.iloadN X0.here hx rfl (hb hby d12_1) rfl k) ?_
    show Own.Fin p e below (s₁.setTop (mkF m 2 #[.val (.ref oa), .val (.ref ra), .val (.int (Int32.ofNat sN)), .val (.int (Int32.ofNat (eN - sN))), .unset] [(.int (Int32.ofNat (eN - sN))), (.int (Int32.ofNat sN))])) _
    refine Own.go (fun t k => XS.iadd X0.here hx rfl (hb hby d12_2) rfl k) ?_
    show Own.Fin p e below (s₁.setTop (mkF m 3 #[.val (.ref oa), .val (.ref ra), .val (.int (Int32.ofNat sN)), .val (.int (Int32.ofNat (eN - sN))), .unset] [(.int ((Int32.ofNat sN) + (Int32.ofNat (eN - sN))))])) _
    rw [show ((Int32.ofNat sN) + (Int32.ofNat (eN - sN))) = (Int32.ofNat eN) from (by rw [← Int32.ofNat_add]; congr 1; omega)]
    show Own.Fin p e below (s₁.setTop (mkF m 3 #[.val (.ref oa), .val (.ref ra), .val (.int (Int32.ofNat sN)), .val (.int (Int32.ofNat (eN - sN))), .unset] [(.int (Int32.ofNat eN))])) _
    refine Own.go (fun t k => XS.istore X0.here hx rfl (hb hby d12_3) rfl (l' := #[.val (.ref oa), .val (.ref ra), .val (.int (Int32.ofNat sN)), .val (.int (Int32.ofNat (eN - sN))), .val (.int (Int32.ofNat eN))]) rfl k) ?_
    show Own.Fin p e below (s₁.setTop (mkF m 5 #[.val (.ref oa), .val (.ref ra), .val (.int (Int32.ofNat sN)), .val (.int (Int32.ofNat (eN - sN))), .val (.int (Int32.ofNat eN))] [])) _
    refine Own.go (fun t k => XS.iloadN X0.here hx rfl (hb hby d12_5) rfl k) ?_
    show Own.Fin p e below (s₁.setTop (mkF m 6 #[.val (.ref oa), .val (.ref ra), .val (.int (Int32.ofNat sN)), .val (.int (Int32.ofNat (eN - sN))), .val (.int (Int32.ofNat eN))] [(.int (Int32.ofNat sN))])) _
    refine Own.go (fun t k => XS.iload X0.here hx rfl (hb hby d12_6) rfl k) ?_
    show Own.Fin p e below (s₁.setTop (mkF m 8 #[.val (.ref oa), .val (.ref ra), .val (.int (Int32.ofNat sN)), .val (.int (Int32.ofNat (eN - sN))), .val (.int (Int32.ofNat eN))] [(.int (Int32.ofNat eN)), (.int (Int32.ofNat sN))])) _
    refine Own.go (fun t k => XS.aloadN X0.here hx rfl (hb hby d12_8) rfl rfl k) ?_
    show Own.Fin p e below (s₁.setTop (mkF m 9 #[.val (.ref oa), .val (.ref ra), .val (.int (Int32.ofNat sN)), .val (.int (Int32.ofNat (eN - sN))), .val (.int (Int32.ofNat eN))] [(.ref ra), (.int (Int32.ofNat eN)), (.int (Int32.ofNat sN))])) _
    refine Own.alen X0 hx hZ e0 VC (hb hby d12_9) ?_
    show Own.Fin p e below (s₁.setTop (mkF m 10 #[.val (.ref oa), .val (.ref ra), .val (.int (Int32.ofNat sN)), .val (.int (Int32.ofNat (eN - sN))), .val (.int (Int32.ofNat eN))] [(.int (4 : Int32)), (.int (Int32.ofNat eN)), (.int (Int32.ofNat sN))])) _
    obtain ⟨T1, X1, e1, st1⟩ := getS2 X0 hx hZ hown (host := "") (Or.inl (hw _ (List.mem_of_getElem? (i := 103) rfl))) Via.refl e0 (SI.ext O0.2) (g := (mkF m 10 #[.val (.ref oa), .val (.ref ra), .val (.int (Int32.ofNat sN)), .val (.int (Int32.ofNat (eN - sN))), .val (.int (Int32.ofNat eN))] [(.int (4 : Int32)), (.int (Int32.ofNat eN)), (.int (Int32.ofNat sN))])) rfl (hb hby d12_10)
    refine Own.go st1 ?_
    show Own.Fin p e below (T1.setTop (mkF m 13 #[.val (.ref oa), .val (.ref ra), .val (.int (Int32.ofNat sN)), .val (.int (Int32.ofNat (eN - sN))), .val (.int (Int32.ofNat eN))] [fi_, (.int (4 : Int32)), (.int (Int32.ofNat eN)), (.int (Int32.ofNat sN))])) _
    refine Own.cS X1 hx hZ hown (hw _ (List.mem_of_getElem? (i := 106) rfl)) (hw _ (List.mem_of_getElem? (i := 107) rfl)) (hw _ (List.mem_of_getElem? (i := 104) rfl)) (hw _ (List.mem_of_getElem? (i := 108) rfl)) (by decide) (rm13 l Z a0 hw [] (Int32.ofNat sN) (Int32.ofNat eN) (4 : Int32) fi_ h0 n0 Z0 hc_i (fun q => absurd ((i_lt sN 0 (by omega) (by omega)).mp q) (by omega)) (fun q => absurd ((i_lt eN sN (by omega) (by omega)).mp q) (by omega)) (fun q => absurd ((i_lt 4 eN (by omega) (by omega)).mp q) (by omega))) (by decide) (W := 0) (by decide) (argsL := [(.int (Int32.ofNat sN)), (.int (Int32.ofNat eN)), (.int (4 : Int32)), fi_]) (rest := []) (by rw [hml]; rfl) (lenOf pd_1 rfl) rfl (Nat.le_of_eq rfl) (hb hby d12_13) e1 (by decide) (by decide) ?_
    intro T2 L2 v2 X2 hQ2
    obtain ⟨rfl, N2q, e2⟩ := hQ2
    have N2 := Fr.app N0 N2q
    show Own.Fin p e below (T2.setTop (mkF m 16 #[.val (.ref oa), .val (.ref ra), .val (.int (Int32.ofNat sN)), .val (.int (Int32.ofNat (eN - sN))), .val (.int (Int32.ofNat eN))] [(.int (Int32.ofNat sN))])) _
    refine Own.go (fun t k => XS.pop X2.here hx rfl (hb hby d12_16) rfl rfl k) ?_
    show Own.Fin p e below (T2.setTop (mkF m 17 #[.val (.ref oa), .val (.ref ra), .val (.int (Int32.ofNat sN)), .val (.int (Int32.ofNat (eN - sN))), .val (.int (Int32.ofNat eN))] [])) _
    refine Own.go (fun t k => XS.aloadN X2.here hx rfl (hb hby d12_17) rfl rfl k) ?_
    show Own.Fin p e below (T2.setTop (mkF m 18 #[.val (.ref oa), .val (.ref ra), .val (.int (Int32.ofNat sN)), .val (.int (Int32.ofNat (eN - sN))), .val (.int (Int32.ofNat eN))] [(.ref oa)])) _
    refine Own.go (fun t k => XS.aloadN X2.here hx rfl (hb hby d12_18) rfl rfl k) ?_
    show Own.Fin p e below (T2.setTop (mkF m 19 #[.val (.ref oa), .val (.ref ra), .val (.int (Int32.ofNat sN)), .val (.int (Int32.ofNat (eN - sN))), .val (.int (Int32.ofNat eN))] [(.ref oa), (.ref oa)])) _
    obtain ⟨T3, X3, e3, st3⟩ := getF X2 hx hZ hown (host := "") (Or.inl (hw _ (List.mem_of_getElem? (i := 109) rfl))) Via.refl e2 F_count (g := (mkF m 19 #[.val (.ref oa), .val (.ref ra), .val (.int (Int32.ofNat sN)), .val (.int (Int32.ofNat (eN - sN))), .val (.int (Int32.ofNat eN))] [(.ref oa), (.ref oa)])) rfl rfl (hb hby d12_19)
    refine Own.go st3 ?_
    show Own.Fin p e below (T3.setTop (mkF m 22 #[.val (.ref oa), .val (.ref ra), .val (.int (Int32.ofNat sN)), .val (.int (Int32.ofNat (eN - sN))), .val (.int (Int32.ofNat eN))] [(.int (Int32.ofNat n)), (.ref oa)])) _
    refine Own.go (fun t k => XS.iloadN X3.here hx rfl (hb hby d12_22) rfl k) ?_
    show Own.Fin p e below (T3.setTop (mkF m 23 #[.val (.ref oa), .val (.ref ra), .val (.int (Int32.ofNat sN)), .val (.int (Int32.ofNat (eN - sN))), .val (.int (Int32.ofNat eN))] [(.int (Int32.ofNat (eN - sN))), (.int (Int32.ofNat n)), (.ref oa)])) _
    refine Own.go (fun t k => XS.iadd X3.here hx rfl (hb hby d12_23) rfl k) ?_
    show Own.Fin p e below (T3.setTop (mkF m 24 #[.val (.ref oa), .val (.ref ra), .val (.int (Int32.ofNat sN)), .val (.int (Int32.ofNat (eN - sN))), .val (.int (Int32.ofNat eN))] [(.int ((Int32.ofNat n) + (Int32.ofNat (eN - sN)))), (.ref oa)])) _
    rw [show ((Int32.ofNat n) + (Int32.ofNat (eN - sN))) = (Int32.ofNat (n + (eN - sN))) from (Int32.ofNat_add _ _).symm]
    show Own.Fin p e below (T3.setTop (mkF m 24 #[.val (.ref oa), .val (.ref ra), .val (.int (Int32.ofNat sN)), .val (.int (Int32.ofNat (eN - sN))), .val (.int (Int32.ofNat eN))] [(.int (Int32.ofNat (n + (eN - sN)))), (.ref oa)])) _
    refine Own.cP X3 hx hZ hown (hw _ (List.mem_of_getElem? (i := 111) rfl)) (hw _ (List.mem_of_getElem? (i := 112) rfl)) (hw _ (List.mem_of_getElem? (i := 113) rfl)) (hw _ (List.mem_of_getElem? (i := 114) rfl)) rfl (hw _ (List.mem_of_getElem? (i := 72) rfl)) (hw _ (List.mem_of_getElem? (i := 115) rfl)) (by decide) (rm14 l Z a0 hw [] oa (Int32.ofNat (n + (eN - sN))) va (0 : Int32) kA (16 : Int32) 16 gA h0 n0 Z0 F_value F_coder VA (own_cap _ (by omega)).1) (by decide) (W := 0) (by decide) (argsL := [(.int (Int32.ofNat (n + (eN - sN))))]) (rest := []) E0 (by rw [hml]; rfl) (lenOf pd_16 rfl) rfl (Nat.le_of_eq rfl) (hb hby d12_24) e3 (by decide) (by decide) ?_
    intro T4 L4 v4 X4 hQ4
    obtain ⟨rfl, N4q, e4⟩ := hQ4
    have N4 := Fr.app N2 N4q
    show Own.Fin p e below (T4.setTop (mkF m 27 #[.val (.ref oa), .val (.ref ra), .val (.int (Int32.ofNat sN)), .val (.int (Int32.ofNat (eN - sN))), .val (.int (Int32.ofNat eN))] [])) _
    refine Own.go (fun t k => XS.aloadN X4.here hx rfl (hb hby d12_27) rfl rfl k) ?_
    show Own.Fin p e below (T4.setTop (mkF m 28 #[.val (.ref oa), .val (.ref ra), .val (.int (Int32.ofNat sN)), .val (.int (Int32.ofNat (eN - sN))), .val (.int (Int32.ofNat eN))] [(.ref oa)])) _
    refine Own.go (fun t k => XS.aloadN X4.here hx rfl (hb hby d12_28) rfl rfl k) ?_
    show Own.Fin p e below (T4.setTop (mkF m 29 #[.val (.ref oa), .val (.ref ra), .val (.int (Int32.ofNat sN)), .val (.int (Int32.ofNat (eN - sN))), .val (.int (Int32.ofNat eN))] [(.ref ra), (.ref oa)])) _
    refine Own.go (fun t k => XS.iloadN X4.here hx rfl (hb hby d12_29) rfl k) ?_
    show Own.Fin p e below (T4.setTop (mkF m 30 #[.val (.ref oa), .val (.ref ra), .val (.int (Int32.ofNat sN)), .val (.int (Int32.ofNat (eN - sN))), .val (.int (Int32.ofNat eN))] [(.int (Int32.ofNat sN)), (.ref ra), (.ref oa)])) _
    refine Own.go (fun t k => XS.iload X4.here hx rfl (hb hby d12_30) rfl k) ?_
    show Own.Fin p e below (T4.setTop (mkF m 32 #[.val (.ref oa), .val (.ref ra), .val (.int (Int32.ofNat sN)), .val (.int (Int32.ofNat (eN - sN))), .val (.int (Int32.ofNat eN))] [(.int (Int32.ofNat eN)), (.int (Int32.ofNat sN)), (.ref ra), (.ref oa)])) _
    refine Own.cP X4 hx hZ hown (hw _ (List.mem_of_getElem? (i := 116) rfl)) (hw _ (List.mem_of_getElem? (i := 117) rfl)) (hw _ (List.mem_of_getElem? (i := 118) rfl)) (hw _ (List.mem_of_getElem? (i := 114) rfl)) rfl (hw _ (List.mem_of_getElem? (i := 72) rfl)) (hw _ (List.mem_of_getElem? (i := 120) rfl)) (by decide) (rm15 l Z a0 hw [] oa ra (Int32.ofNat sN) (Int32.ofNat eN) cs fs_ va kC n sN eN ch cc h0 n0 Z0 O0 SC SD SH SL SF hcs hc_s hR gva VC ga hov hro hrv hse he4 hn hcc rfl rfl) (by decide) (W := 0) (by decide) (argsL := [(.ref ra), (.int (Int32.ofNat sN)), (.int (Int32.ofNat eN))]) (rest := []) E0 (by rw [hml]; rfl) (lenOf pd_17 rfl) rfl (Nat.le_of_eq rfl) (hb hby d12_32) e4 (by decide) (by decide) ?_
    intro T5 L5 v5 X5 hQ5
    obtain ⟨va', rfl, N5q, K5q, gv', ho', hf', hR'⟩ := hQ5
    have N5 := Fr.app N4 N5q
    have Z5 : n0 ≤ T5.heap.size := Nat.le_trans Z0 K5q.1
    show Own.Fin p e below (T5.setTop (mkF m 35 #[.val (.ref oa), .val (.ref ra), .val (.int (Int32.ofNat sN)), .val (.int (Int32.ofNat (eN - sN))), .val (.int (Int32.ofNat eN))] [])) _
    refine Own.go (fun t k => XS.aloadN X5.here hx rfl (hb hby d12_35) rfl rfl k) ?_
    show Own.Fin p e below (T5.setTop (mkF m 36 #[.val (.ref oa), .val (.ref ra), .val (.int (Int32.ofNat sN)), .val (.int (Int32.ofNat (eN - sN))), .val (.int (Int32.ofNat eN))] [(.ref oa)])) _
    refine Own.retR X5 hx Bd.notSynchronized Bd.returns rfl rfl (hb hby d12_36) (by decide) (by decide) ?_
    exact ⟨va', rfl, N5, K5q, gv', ho', hf', hR'⟩
  · skip
    show Own.Fin p e below (s₁.setTop (mkF m 0 #[.val (.ref oa), .val (.ref ra), .val (.int (Int32.ofNat sN)), .val (.int (Int32.ofNat (eN - sN))), .unset] [])) _
    refine Own.go (fun t k => XS.iloadN X0.here hx rfl (hb hby d12_0) rfl k) ?_
    show Own.Fin p e below (s₁.setTop (mkF m 1 #[.val (.ref oa), .val (.ref ra), .val (.int (Int32.ofNat sN)), .val (.int (Int32.ofNat (eN - sN))), .unset] [(.int (Int32.ofNat sN))])) _
    refine Own.go (fun t k => XS.iloadN X0.here hx rfl (hb hby d12_1) rfl k) ?_
    show Own.Fin p e below (s₁.setTop (mkF m 2 #[.val (.ref oa), .val (.ref ra), .val (.int (Int32.ofNat sN)), .val (.int (Int32.ofNat (eN - sN))), .unset] [(.int (Int32.ofNat (eN - sN))), (.int (Int32.ofNat sN))])) _
    refine Own.go (fun t k => XS.iadd X0.here hx rfl (hb hby d12_2) rfl k) ?_
    show Own.Fin p e below (s₁.setTop (mkF m 3 #[.val (.ref oa), .val (.ref ra), .val (.int (Int32.ofNat sN)), .val (.int (Int32.ofNat (eN - sN))), .unset] [(.int ((Int32.ofNat sN) + (Int32.ofNat (eN - sN))))])) _
    rw [show ((Int32.ofNat sN) + (Int32.ofNat (eN - sN))) = (Int32.ofNat eN) from (by rw [← Int32.ofNat_add]; congr 1; omega)]
    show Own.Fin p e below (s₁.setTop (mkF m 3 #[.val (.ref oa), .val (.ref ra), .val (.int (Int32.ofNat sN)), .val (.int (Int32.ofNat (eN - sN))), .unset] [(.int (Int32.ofNat eN))])) _
    refine Own.go (fun t k => XS.istore X0.here hx rfl (hb hby d12_3) rfl (l' := #[.val (.ref oa), .val (.ref ra), .val (.int (Int32.ofNat sN)), .val (.int (Int32.ofNat (eN - sN))), .val (.int (Int32.ofNat eN))]) rfl k) ?_
    show Own.Fin p e below (s₁.setTop (mkF m 5 #[.val (.ref oa), .val (.ref ra), .val (.int (Int32.ofNat sN)), .val (.int (Int32.ofNat (eN - sN))), .val (.int (Int32.ofNat eN))] [])) _
    refine Own.go (fun t k => XS.iloadN X0.here hx rfl (hb hby d12_5) rfl k) ?_
    show Own.Fin p e below (s₁.setTop (mkF m 6 #[.val (.ref oa), .val (.ref ra), .val (.int (Int32.ofNat sN)), .val (.int (Int32.ofNat (eN - sN))), .val (.int (Int32.ofNat eN))] [(.int (Int32.ofNat sN))])) _
    refine Own.go (fun t k => XS.iload X0.here hx rfl (hb hby d12_6) rfl k) ?_
    show Own.Fin p e below (s₁.setTop (mkF m 8 #[.val (.ref oa), .val (.ref ra), .val (.int (Int32.ofNat sN)), .val (.int (Int32.ofNat (eN - sN))), .val (.int (Int32.ofNat eN))] [(.int (Int32.ofNat eN)), (.int (Int32.ofNat sN))])) _
    refine Own.go (fun t k => XS.aloadN X0.here hx rfl (hb hby d12_8) rfl rfl k) ?_
    show Own.Fin p e below (s₁.setTop (mkF m 9 #[.val (.ref oa), .val (.ref ra), .val (.int (Int32.ofNat sN)), .val (.int (Int32.ofNat (eN - sN))), .val (.int (Int32.ofNat eN))] [(.ref ra), (.int (Int32.ofNat eN)), (.int (Int32.ofNat sN))])) _
    refine Own.alen X0 hx hZ e0 VC (hb hby d12_9) ?_
    show Own.Fin p e below (s₁.setTop (mkF m 10 #[.val (.ref oa), .val (.ref ra), .val (.int (Int32.ofNat sN)), .val (.int (Int32.ofNat (eN - sN))), .val (.int (Int32.ofNat eN))] [(.int (4 : Int32)), (.int (Int32.ofNat eN)), (.int (Int32.ofNat sN))])) _
    obtain ⟨T6, X6, e6, st6⟩ := getS2 X0 hx hZ hown (host := "") (Or.inl (hw _ (List.mem_of_getElem? (i := 103) rfl))) Via.refl e0 (SI.ext O0.2) (g := (mkF m 10 #[.val (.ref oa), .val (.ref ra), .val (.int (Int32.ofNat sN)), .val (.int (Int32.ofNat (eN - sN))), .val (.int (Int32.ofNat eN))] [(.int (4 : Int32)), (.int (Int32.ofNat eN)), (.int (Int32.ofNat sN))])) rfl (hb hby d12_10)
    refine Own.go st6 ?_
    show Own.Fin p e below (T6.setTop (mkF m 13 #[.val (.ref oa), .val (.ref ra), .val (.int (Int32.ofNat sN)), .val (.int (Int32.ofNat (eN - sN))), .val (.int (Int32.ofNat eN))] [fi_, (.int (4 : Int32)), (.int (Int32.ofNat eN)), (.int (Int32.ofNat sN))])) _
    refine Own.cS X6 hx hZ hown (hw _ (List.mem_of_getElem? (i := 106) rfl)) (hw _ (List.mem_of_getElem? (i := 107) rfl)) (hw _ (List.mem_of_getElem? (i := 104) rfl)) (hw _ (List.mem_of_getElem? (i := 108) rfl)) (by decide) (rm13 l Z a0 hw [] (Int32.ofNat sN) (Int32.ofNat eN) (4 : Int32) fi_ h0 n0 Z0 hc_i (fun q => absurd ((i_lt sN 0 (by omega) (by omega)).mp q) (by omega)) (fun q => absurd ((i_lt eN sN (by omega) (by omega)).mp q) (by omega)) (fun q => absurd ((i_lt 4 eN (by omega) (by omega)).mp q) (by omega))) (by decide) (W := 0) (by decide) (argsL := [(.int (Int32.ofNat sN)), (.int (Int32.ofNat eN)), (.int (4 : Int32)), fi_]) (rest := []) (by rw [hml]; rfl) (lenOf pd_1 rfl) rfl (Nat.le_of_eq rfl) (hb hby d12_13) e6 (by decide) (by decide) ?_
    intro T7 L7 v7 X7 hQ7
    obtain ⟨rfl, N7q, e7⟩ := hQ7
    have N7 := Fr.app N0 N7q
    show Own.Fin p e below (T7.setTop (mkF m 16 #[.val (.ref oa), .val (.ref ra), .val (.int (Int32.ofNat sN)), .val (.int (Int32.ofNat (eN - sN))), .val (.int (Int32.ofNat eN))] [(.int (Int32.ofNat sN))])) _
    refine Own.go (fun t k => XS.pop X7.here hx rfl (hb hby d12_16) rfl rfl k) ?_
    show Own.Fin p e below (T7.setTop (mkF m 17 #[.val (.ref oa), .val (.ref ra), .val (.int (Int32.ofNat sN)), .val (.int (Int32.ofNat (eN - sN))), .val (.int (Int32.ofNat eN))] [])) _
    refine Own.go (fun t k => XS.aloadN X7.here hx rfl (hb hby d12_17) rfl rfl k) ?_
    show Own.Fin p e below (T7.setTop (mkF m 18 #[.val (.ref oa), .val (.ref ra), .val (.int (Int32.ofNat sN)), .val (.int (Int32.ofNat (eN - sN))), .val (.int (Int32.ofNat eN))] [(.ref oa)])) _
    refine Own.go (fun t k => XS.aloadN X7.here hx rfl (hb hby d12_18) rfl rfl k) ?_
    show Own.Fin p e below (T7.setTop (mkF m 19 #[.val (.ref oa), .val (.ref ra), .val (.int (Int32.ofNat sN)), .val (.int (Int32.ofNat (eN - sN))), .val (.int (Int32.ofNat eN))] [(.ref oa), (.ref oa)])) _
    obtain ⟨T8, X8, e8, st8⟩ := getF X7 hx hZ hown (host := "") (Or.inl (hw _ (List.mem_of_getElem? (i := 109) rfl))) Via.refl e7 F_count (g := (mkF m 19 #[.val (.ref oa), .val (.ref ra), .val (.int (Int32.ofNat sN)), .val (.int (Int32.ofNat (eN - sN))), .val (.int (Int32.ofNat eN))] [(.ref oa), (.ref oa)])) rfl rfl (hb hby d12_19)
    refine Own.go st8 ?_
    show Own.Fin p e below (T8.setTop (mkF m 22 #[.val (.ref oa), .val (.ref ra), .val (.int (Int32.ofNat sN)), .val (.int (Int32.ofNat (eN - sN))), .val (.int (Int32.ofNat eN))] [(.int (Int32.ofNat n)), (.ref oa)])) _
    refine Own.go (fun t k => XS.iloadN X8.here hx rfl (hb hby d12_22) rfl k) ?_
    show Own.Fin p e below (T8.setTop (mkF m 23 #[.val (.ref oa), .val (.ref ra), .val (.int (Int32.ofNat sN)), .val (.int (Int32.ofNat (eN - sN))), .val (.int (Int32.ofNat eN))] [(.int (Int32.ofNat (eN - sN))), (.int (Int32.ofNat n)), (.ref oa)])) _
    refine Own.go (fun t k => XS.iadd X8.here hx rfl (hb hby d12_23) rfl k) ?_
    show Own.Fin p e below (T8.setTop (mkF m 24 #[.val (.ref oa), .val (.ref ra), .val (.int (Int32.ofNat sN)), .val (.int (Int32.ofNat (eN - sN))), .val (.int (Int32.ofNat eN))] [(.int ((Int32.ofNat n) + (Int32.ofNat (eN - sN)))), (.ref oa)])) _
    rw [show ((Int32.ofNat n) + (Int32.ofNat (eN - sN))) = (Int32.ofNat (n + (eN - sN))) from (Int32.ofNat_add _ _).symm]
    show Own.Fin p e below (T8.setTop (mkF m 24 #[.val (.ref oa), .val (.ref ra), .val (.int (Int32.ofNat sN)), .val (.int (Int32.ofNat (eN - sN))), .val (.int (Int32.ofNat eN))] [(.int (Int32.ofNat (n + (eN - sN)))), (.ref oa)])) _
    refine Own.cP X8 hx hZ hown (hw _ (List.mem_of_getElem? (i := 111) rfl)) (hw _ (List.mem_of_getElem? (i := 112) rfl)) (hw _ (List.mem_of_getElem? (i := 113) rfl)) (hw _ (List.mem_of_getElem? (i := 114) rfl)) rfl (hw _ (List.mem_of_getElem? (i := 72) rfl)) (hw _ (List.mem_of_getElem? (i := 115) rfl)) (by decide) (rm14 l Z a0 hw [] oa (Int32.ofNat (n + (eN - sN))) va (1 : Int32) kA (32 : Int32) 32 gA h0 n0 Z0 F_value F_coder VA (own_cap _ (by omega)).2) (by decide) (W := 0) (by decide) (argsL := [(.int (Int32.ofNat (n + (eN - sN))))]) (rest := []) E0 (by rw [hml]; rfl) (lenOf pd_16 rfl) rfl (Nat.le_of_eq rfl) (hb hby d12_24) e8 (by decide) (by decide) ?_
    intro T9 L9 v9 X9 hQ9
    obtain ⟨rfl, N9q, e9⟩ := hQ9
    have N9 := Fr.app N7 N9q
    show Own.Fin p e below (T9.setTop (mkF m 27 #[.val (.ref oa), .val (.ref ra), .val (.int (Int32.ofNat sN)), .val (.int (Int32.ofNat (eN - sN))), .val (.int (Int32.ofNat eN))] [])) _
    refine Own.go (fun t k => XS.aloadN X9.here hx rfl (hb hby d12_27) rfl rfl k) ?_
    show Own.Fin p e below (T9.setTop (mkF m 28 #[.val (.ref oa), .val (.ref ra), .val (.int (Int32.ofNat sN)), .val (.int (Int32.ofNat (eN - sN))), .val (.int (Int32.ofNat eN))] [(.ref oa)])) _
    refine Own.go (fun t k => XS.aloadN X9.here hx rfl (hb hby d12_28) rfl rfl k) ?_
    show Own.Fin p e below (T9.setTop (mkF m 29 #[.val (.ref oa), .val (.ref ra), .val (.int (Int32.ofNat sN)), .val (.int (Int32.ofNat (eN - sN))), .val (.int (Int32.ofNat eN))] [(.ref ra), (.ref oa)])) _
    refine Own.go (fun t k => XS.iloadN X9.here hx rfl (hb hby d12_29) rfl k) ?_
    show Own.Fin p e below (T9.setTop (mkF m 30 #[.val (.ref oa), .val (.ref ra), .val (.int (Int32.ofNat sN)), .val (.int (Int32.ofNat (eN - sN))), .val (.int (Int32.ofNat eN))] [(.int (Int32.ofNat sN)), (.ref ra), (.ref oa)])) _
    refine Own.go (fun t k => XS.iload X9.here hx rfl (hb hby d12_30) rfl k) ?_
    show Own.Fin p e below (T9.setTop (mkF m 32 #[.val (.ref oa), .val (.ref ra), .val (.int (Int32.ofNat sN)), .val (.int (Int32.ofNat (eN - sN))), .val (.int (Int32.ofNat eN))] [(.int (Int32.ofNat eN)), (.int (Int32.ofNat sN)), (.ref ra), (.ref oa)])) _
    refine Own.cP X9 hx hZ hown (hw _ (List.mem_of_getElem? (i := 116) rfl)) (hw _ (List.mem_of_getElem? (i := 117) rfl)) (hw _ (List.mem_of_getElem? (i := 118) rfl)) (hw _ (List.mem_of_getElem? (i := 114) rfl)) rfl (hw _ (List.mem_of_getElem? (i := 72) rfl)) (hw _ (List.mem_of_getElem? (i := 120) rfl)) (by decide) (rm15 l Z a0 hw [] oa ra (Int32.ofNat sN) (Int32.ofNat eN) cs fs_ va kC n sN eN ch cc h0 n0 Z0 O0 SC SD SH SL SF hcs hc_s hR gva VC ga hov hro hrv hse he4 hn hcc rfl rfl) (by decide) (W := 0) (by decide) (argsL := [(.ref ra), (.int (Int32.ofNat sN)), (.int (Int32.ofNat eN))]) (rest := []) E0 (by rw [hml]; rfl) (lenOf pd_17 rfl) rfl (Nat.le_of_eq rfl) (hb hby d12_32) e9 (by decide) (by decide) ?_
    intro T10 L10 v10 X10 hQ10
    obtain ⟨va', rfl, N10q, K10q, gv', ho', hf', hR'⟩ := hQ10
    have N10 := Fr.app N9 N10q
    have Z10 : n0 ≤ T10.heap.size := Nat.le_trans Z0 K10q.1
    show Own.Fin p e below (T10.setTop (mkF m 35 #[.val (.ref oa), .val (.ref ra), .val (.int (Int32.ofNat sN)), .val (.int (Int32.ofNat (eN - sN))), .val (.int (Int32.ofNat eN))] [])) _
    refine Own.go (fun t k => XS.aloadN X10.here hx rfl (hb hby d12_35) rfl rfl k) ?_
    show Own.Fin p e below (T10.setTop (mkF m 36 #[.val (.ref oa), .val (.ref ra), .val (.int (Int32.ofNat sN)), .val (.int (Int32.ofNat (eN - sN))), .val (.int (Int32.ofNat eN))] [(.ref oa)])) _
    refine Own.retR X10 hx Bd.notSynchronized Bd.returns rfl rfl (hb hby d12_36) (by decide) (by decide) ?_
    exact ⟨va', rfl, N10, K10q, gv', ho', hf', hR'⟩
theorem d11_0 : decode jdk_67_method_12_code 0 = .ok (.aload_n 0, 1) := by decide +kernel
theorem d11_1 : decode jdk_67_method_12_code 1 = .ok (.aload_n 1, 1) := by decide +kernel
theorem d11_2 : decode jdk_67_method_12_code 2 = .ok (.iload_n 2, 1) := by decide +kernel
theorem d11_3 : decode jdk_67_method_12_code 3 = .ok (.iload_n 3, 1) := by decide +kernel
theorem d11_4 : decode jdk_67_method_12_code 4 = .ok (.invokespecial 44, 3) := by decide +kernel
theorem d11_7 : decode jdk_67_method_12_code 7 = .ok (.pop, 1) := by decide +kernel
theorem d11_8 : decode jdk_67_method_12_code 8 = .ok (.aload_n 0, 1) := by decide +kernel
theorem d11_9 : decode jdk_67_method_12_code 9 = .ok (.areturn, 1) := by decide +kernel
theorem pd_18 : parseMethodDescriptor "([CII)Ljava/lang/AbstractStringBuilder;" = some ⟨[(.array .char), .int, .int], some (.object "java/lang/AbstractStringBuilder")⟩ := by decide +kernel
theorem pn_11 : plainName "java/lang/StringBuilder" = true := by first | (simp [plainName, overriddenIn]; done) | decide +kernel
theorem ef_11 (m : MethodId) (oa : Addr) (ra : Addr) (p3 : Int32) (p4 : Int32)  : entryFrame m #[(.ref oa), (.ref ra), (.int p3), (.int p4)] 4 = mkF m 0 #[.val (.ref oa), .val (.ref ra), .val (.int p3), .val (.int p4)] [] := by first | (simp [entryFrame, mkF, argsToLocals, Value.category]; done) | rfl
def Q11 (Z : State) (oa : Addr) (ra : Addr) (p3 : Int32) (p4 : Int32) (cs : Int32) (fs_ fi_ : Value) (va : Addr) (kC : ClassId) (n sN eN : Nat) (ch cc : Nat → Nat) (h0 : Heap) (n0 : Nat) : Option Value → Heap → List Loc → Prop := fun v h L => ∃ va', v = some (.ref oa) ∧ Fr n0 L ∧ Keep h0 h [oa, va] ∧ n0 ≤ va' ∧ oa ≠ va' ∧ (va' = va ∨ h0.size ≤ va') ∧ SBR Z h oa va' (chA ch cc n sN) (n + (eN - sN))
set_option maxRecDepth 65536 in
set_option maxHeartbeats 40000000 in
theorem rm11 (l : Launch) (Z : State) (a0 : Array Value) (hw : ∀ d ∈ tables_1, d.before a0 Z = true) (ws : List Jvm.Cond) (oa : Addr) (ra : Addr) (p3 : Int32) (p4 : Int32) (cs : Int32) (fs_ fi_ : Value) (va : Addr) (kC : ClassId) (n sN eN : Nat) (ch cc : Nat → Nat) (h0 : Heap) (n0 : Nat) (Z0 : n0 ≤ h0.size) (O0 : Old Z n0 h0) (SC : Sta Z Z.heap "java/lang/String" "COMPACT_STRINGS" "Z" (.int cs)) (SD : Sta Z Z.heap "java/lang/StringUTF16" "$assertionsDisabled" "Z" (.int (1 : Int32))) (SH : Sta Z Z.heap "java/lang/StringUTF16" "HI_BYTE_SHIFT" "I" (.int (0 : Int32))) (SL : Sta Z Z.heap "java/lang/StringUTF16" "LO_BYTE_SHIFT" "I" (.int (8 : Int32))) (SF : Sta Z Z.heap "jdk/internal/util/Preconditions" "SIOOBE_FORMATTER" "Ljava/util/function/BiFunction;" fs_) (SI : Sta Z Z.heap "jdk/internal/util/Preconditions" "IOOBE_FORMATTER" "Ljava/util/function/BiFunction;" fi_) (hcs : ¬ cs = (0 : Int32)) (hc_s : fs_.category = 1) (hc_i : fi_.category = 1) (hR : SBR Z h0 oa va ch n) (gva : n0 ≤ va) (VC : Arv Z h0 ra kC .char (4 : Int32) (tab 4 (fun i => Value.int (Int32.ofNat (cc i)))) (.int (0 : Int32))) (ga : n0 ≤ oa) (hov : oa ≠ va) (hro : ra ≠ oa) (hrv : ra ≠ va) (hse : sN ≤ eN) (he4 : eN ≤ 4) (hn : n + (eN - sN) ≤ 16) (hcc : ∀ i, cc i < 65536) (hp3 : p3 = Int32.ofNat sN) (hp4 : p4 = Int32.ofNat (eN - sN)) :
    MetFree l (⟨"java/lang/StringBuilder", "append", "([CII)Ljava/lang/StringBuilder;"⟩ : MethodName) (head1 (Jvm.Cond.code (⟨"java/lang/StringBuilder", "append", "([CII)Ljava/lang/StringBuilder;"⟩ : MethodName) jdk_67_method_12_code 4 (some (.object "java/lang/StringBuilder")) :: ws) ({ frames := 8, cells := 1, slots := 32, locals := 176 } : Room)) (fun a U => a = #[(.ref oa), (.ref ra), (.int p3), (.int p4)] ∧ Z.Warmed39 U.vm ∧ U.heap = h0) (fun _ _ _ _ _ => True) (fun _ U o U' => ∃ v L, o = .returned v ∧ (Q11 Z oa ra p3 p4 cs fs_ fi_ va kC n sN eN ch cc h0 n0) v U'.heap L ∧ FrameEnd U o U' L ({ frames := 8, cells := 1, slots := 32, locals := 176 } : Room).cells ({ frames := 8, cells := 1, slots := 32, locals := 176 } : Room).slots) := by
  refine MetFree.of_bodySF (plainFor_of_name pn_11) hisR ?_
  intro p e s m args below meth c s₁ Bd hml0 hP hK
  obtain ⟨rfl, hZ, hh⟩ := hP
  have hx := Bd.exec
  have hby := Bd.bytes
  have hml : c.maxLocals = 4 := hml0
  have hown : s.vm.findClass "java/lang/StringBuilder" = some m.cls := findClass_of_methodNamed Bd.named
  have hnm := (name_of_methodNamed Bd.named Bd.method).1
  have X0 : Stand p l e ({ frames := 8, cells := 1, slots := 32, locals := 176 } : Room) s m #[(.ref oa), (.ref ra), (.int p3), (.int p4)] below meth c s₁ [] 0 0 := Stand.of_body Bd
  have e0 : s₁.heap = h0 := by rw [← hh, Bd.state]; rfl
  have N0 := Fr.nil n0
  show Own.Fin p e below _ (Own.Post s (Q11 Z oa ra p3 p4 cs fs_ fi_ va kC n sN eN ch cc h0 n0) ({ frames := 8, cells := 1, slots := 32, locals := 176 } : Room).cells ({ frames := 8, cells := 1, slots := 32, locals := 176 } : Room).slots)
  refine Own.start (ef_11 m oa ra p3 p4) ?_
  have E0 := hR.1
  show Own.Fin p e below (s₁.setTop (mkF m 0 #[.val (.ref oa), .val (.ref ra), .val (.int p3), .val (.int p4)] [])) _
  refine Own.go (fun t k => XS.aloadN X0.here hx rfl (hb hby d11_0) rfl rfl k) ?_
  show Own.Fin p e below (s₁.setTop (mkF m 1 #[.val (.ref oa), .val (.ref ra), .val (.int p3), .val (.int p4)] [(.ref oa)])) _
  refine Own.go (fun t k => XS.aloadN X0.here hx rfl (hb hby d11_1) rfl rfl k) ?_
  show Own.Fin p e below (s₁.setTop (mkF m 2 #[.val (.ref oa), .val (.ref ra), .val (.int p3), .val (.int p4)] [(.ref ra), (.ref oa)])) _
  refine Own.go (fun t k => XS.iloadN X0.here hx rfl (hb hby d11_2) rfl k) ?_
  show Own.Fin p e below (s₁.setTop (mkF m 3 #[.val (.ref oa), .val (.ref ra), .val (.int p3), .val (.int p4)] [(.int p3), (.ref ra), (.ref oa)])) _
  refine Own.go (fun t k => XS.iloadN X0.here hx rfl (hb hby d11_3) rfl k) ?_
  show Own.Fin p e below (s₁.setTop (mkF m 4 #[.val (.ref oa), .val (.ref ra), .val (.int p3), .val (.int p4)] [(.int p4), (.int p3), (.ref ra), (.ref oa)])) _
  refine own_cU X0 hx hZ hown (hw _ (List.mem_of_getElem? (i := 98) rfl)) (hw _ (List.mem_of_getElem? (i := 114) rfl)) rfl (hw _ (List.mem_of_getElem? (i := 99) rfl)) (hw _ (List.mem_of_getElem? (i := 100) rfl)) (by decide) (hw _ (List.mem_of_getElem? (i := 72) rfl)) (hw _ (List.mem_of_getElem? (i := 102) rfl)) (by decide) (rm12 l Z a0 hw [] oa ra p3 p4 cs fs_ fi_ va kC n sN eN ch cc h0 n0 Z0 O0 SC SD SH SL SF SI hcs hc_s hc_i hR gva VC ga hov hro hrv hse he4 hn hcc hp3 hp4) (by decide) (W := 0) (by decide) (argsL := [(.ref ra), (.int p3), (.int p4)]) (rest := []) (Ins.self E0) (by rw [hml]; rfl) (lenOf pd_18 rfl) rfl (Nat.le_of_eq rfl) (hb hby d11_4) e0 (by decide) (by decide) ?_
  intro T1 L1 v1 X1 hQ1
  obtain ⟨va', rfl, N1q, K1q, gv', ho', hf', hR'⟩ := hQ1
  have N1 := Fr.app N0 N1q
  have Z1 : n0 ≤ T1.heap.size := Nat.le_trans Z0 K1q.1
  show Own.Fin p e below (T1.setTop (mkF m 7 #[.val (.ref oa), .val (.ref ra), .val (.int p3), .val (.int p4)] [(.ref oa)])) _
  refine Own.go (fun t k => XS.pop X1.here hx rfl (hb hby d11_7) rfl rfl k) ?_
  show Own.Fin p e below (T1.setTop (mkF m 8 #[.val (.ref oa), .val (.ref ra), .val (.int p3), .val (.int p4)] [])) _
  refine Own.go (fun t k => XS.aloadN X1.here hx rfl (hb hby d11_8) rfl rfl k) ?_
  show Own.Fin p e below (T1.setTop (mkF m 9 #[.val (.ref oa), .val (.ref ra), .val (.int p3), .val (.int p4)] [(.ref oa)])) _
  refine Own.retR X1 hx Bd.notSynchronized Bd.returns rfl rfl (hb hby d11_9) (by decide) (by decide) ?_
  exact ⟨va', rfl, N1, K1q, gv', ho', hf', hR'⟩
theorem d10_0 : decode prog_100_method_6_code 0 = .ok (.aload_n 0, 1) := by decide +kernel
theorem d10_1 : decode prog_100_method_6_code 1 = .ok (.getfield 19, 3) := by decide +kernel
theorem d10_4 : decode prog_100_method_6_code 4 = .ok (.aload_n 1, 1) := by decide +kernel
theorem d10_5 : decode prog_100_method_6_code 5 = .ok (.iload_n 2, 1) := by decide +kernel
theorem d10_6 : decode prog_100_method_6_code 6 = .ok (.iload_n 3, 1) := by decide +kernel
theorem d10_7 : decode prog_100_method_6_code 7 = .ok (.invokevirtual 41, 3) := by decide +kernel
theorem d10_10 : decode prog_100_method_6_code 10 = .ok (.pop, 1) := by decide +kernel
theorem d10_11 : decode prog_100_method_6_code 11 = .ok (.return_, 1) := by decide +kernel
theorem pd_19 : parseMethodDescriptor "([CII)Ljava/lang/StringBuilder;" = some ⟨[(.array .char), .int, .int], some (.object "java/lang/StringBuilder")⟩ := by decide +kernel
theorem pn_10 : plainName "com/example/loomwright/loomwright/rule/XmlElement" = true := by first | (simp [plainName, overriddenIn]; done) | decide +kernel
theorem ef_10 (m : MethodId) (xa : Addr) (ra : Addr) (p3 : Int32) (p4 : Int32)  : entryFrame m #[(.ref xa), (.ref ra), (.int p3), (.int p4)] 4 = mkF m 0 #[.val (.ref xa), .val (.ref ra), .val (.int p3), .val (.int p4)] [] := by first | (simp [entryFrame, mkF, argsToLocals, Value.category]; done) | rfl
def Q10 (Z : State) (xa : Addr) (ra : Addr) (p3 : Int32) (p4 : Int32) (oa : Addr) (cs : Int32) (fs_ fi_ : Value) (va : Addr) (kC : ClassId) (n sN eN : Nat) (ch cc : Nat → Nat) (h0 : Heap) (n0 : Nat) : Option Value → Heap → List Loc → Prop := fun v h L => ∃ va', v = none ∧ Fr n0 L ∧ Keep h0 h [oa, va] ∧ n0 ≤ va' ∧ oa ≠ va' ∧ (va' = va ∨ h0.size ≤ va') ∧ SBR Z h oa va' (chA ch cc n sN) (n + (eN - sN))
set_option maxRecDepth 65536 in
set_option maxHeartbeats 40000000 in
theorem rm10 (l : Launch) (Z : State) (a0 : Array Value) (hw : ∀ d ∈ tables_1, d.before a0 Z = true) (ws : List Jvm.Cond) (xa : Addr) (ra : Addr) (p3 : Int32) (p4 : Int32) (oa : Addr) (cs : Int32) (fs_ fi_ : Value) (va : Addr) (kC : ClassId) (n sN eN : Nat) (ch cc : Nat → Nat) (h0 : Heap) (n0 : Nat) (Z0 : n0 ≤ h0.size) (O0 : Old Z n0 h0) (SC : Sta Z Z.heap "java/lang/String" "COMPACT_STRINGS" "Z" (.int cs)) (SD : Sta Z Z.heap "java/lang/StringUTF16" "$assertionsDisabled" "Z" (.int (1 : Int32))) (SH : Sta Z Z.heap "java/lang/StringUTF16" "HI_BYTE_SHIFT" "I" (.int (0 : Int32))) (SL : Sta Z Z.heap "java/lang/StringUTF16" "LO_BYTE_SHIFT" "I" (.int (8 : Int32))) (SF : Sta Z Z.heap "jdk/internal/util/Preconditions" "SIOOBE_FORMATTER" "Ljava/util/function/BiFunction;" fs_) (SI : Sta Z Z.heap "jdk/internal/util/Preconditions" "IOOBE_FORMATTER" "Ljava/util/function/BiFunction;" fi_) (hcs : ¬ cs = (0 : Int32)) (hc_s : fs_.category = 1) (hc_i : fi_.category = 1) (FX : Fld Z h0 xa "com/example/loomwright/loomwright/rule/XmlElement" "text" "Ljava/lang/StringBuilder;" (.ref oa)) (hR : SBR Z h0 oa va ch n) (gva : n0 ≤ va) (VC : Arv Z h0 ra kC .char (4 : Int32) (tab 4 (fun i => Value.int (Int32.ofNat (cc i)))) (.int (0 : Int32))) (ga : n0 ≤ oa) (hov : oa ≠ va) (hro : ra ≠ oa) (hrv : ra ≠ va) (hse : sN ≤ eN) (he4 : eN ≤ 4) (hn : n + (eN - sN) ≤ 16) (hcc : ∀ i, cc i < 65536) (hp3 : p3 = Int32.ofNat sN) (hp4 : p4 = Int32.ofNat (eN - sN)) :
    MetFree l (⟨"com/example/loomwright/loomwright/rule/XmlElement", "appendText", "([CII)V"⟩ : MethodName) (head1 (Jvm.Cond.code (⟨"com/example/loomwright/loomwright/rule/XmlElement", "appendText", "([CII)V"⟩ : MethodName) prog_100_method_6_code 4 none :: ws) ({ frames := 9, cells := 1, slots := 32, locals := 192 } : Room)) (fun a U => a = #[(.ref xa), (.ref ra), (.int p3), (.int p4)] ∧ Z.Warmed39 U.vm ∧ U.heap = h0) (fun _ _ _ _ _ => True) (fun _ U o U' => ∃ v L, o = .returned v ∧ (Q10 Z xa ra p3 p4 oa cs fs_ fi_ va kC n sN eN ch cc h0 n0) v U'.heap L ∧ FrameEnd U o U' L ({ frames := 9, cells := 1, slots := 32, locals := 192 } : Room).cells ({ frames := 9, cells := 1, slots := 32, locals := 192 } : Room).slots) := by
  refine MetFree.of_bodySF (plainFor_of_name pn_10) hisR ?_
  intro p e s m args below meth c s₁ Bd hml0 hP hK
  obtain ⟨rfl, hZ, hh⟩ := hP
  have hx := Bd.exec
  have hby := Bd.bytes
  have hml : c.maxLocals = 4 := hml0
  have hown : s.vm.findClass "com/example/loomwright/loomwright/rule/XmlElement" = some m.cls := findClass_of_methodNamed Bd.named
  have hnm := (name_of_methodNamed Bd.named Bd.method).1
  have X0 : Stand p l e ({ frames := 9, cells := 1, slots := 32, locals := 192 } : Room) s m #[(.ref xa), (.ref ra), (.int p3), (.int p4)] below meth c s₁ [] 0 0 := Stand.of_body Bd
  have e0 : s₁.heap = h0 := by rw [← hh, Bd.state]; rfl
  have N0 := Fr.nil n0
  show Own.Fin p e below _ (Own.Post s (Q10 Z xa ra p3 p4 oa cs fs_ fi_ va kC n sN eN ch cc h0 n0) ({ frames := 9, cells := 1, slots := 32, locals := 192 } : Room).cells ({ frames := 9, cells := 1, slots := 32, locals := 192 } : Room).slots)
  refine Own.start (ef_10 m xa ra p3 p4) ?_
  have E0 := hR.1
  show Own.Fin p e below (s₁.setTop (mkF m 0 #[.val (.ref xa), .val (.ref ra), .val (.int p3), .val (.int p4)] [])) _
  refine Own.go (fun t k => XS.aloadN X0.here hx rfl (hb hby d10_0) rfl rfl k) ?_
  show Own.Fin p e below (s₁.setTop (mkF m 1 #[.val (.ref xa), .val (.ref ra), .val (.int p3), .val (.int p4)] [(.ref xa)])) _
  obtain ⟨T1, X1, e1, st1⟩ := getF X0 hx hZ hown (host := "") (Or.inl (hw _ (List.mem_of_getElem? (i := 80) rfl))) Via.refl e0 FX (g := (mkF m 1 #[.val (.ref xa), .val (.ref ra), .val (.int p3), .val (.int p4)] [(.ref xa)])) rfl rfl (hb hby d10_1)
  refine Own.go st1 ?_
  show Own.Fin p e below (T1.setTop (mkF m 4 #[.val (.ref xa), .val (.ref ra), .val (.int p3), .val (.int p4)] [(.ref oa)])) _
  refine Own.go (fun t k => XS.aloadN X1.here hx rfl (hb hby d10_4) rfl rfl k) ?_
  show Own.Fin p e below (T1.setTop (mkF m 5 #[.val (.ref xa), .val (.ref ra), .val (.int p3), .val (.int p4)] [(.ref ra), (.ref oa)])) _
  refine Own.go (fun t k => XS.iloadN X1.here hx rfl (hb hby d10_5) rfl k) ?_
  show Own.Fin p e below (T1.setTop (mkF m 6 #[.val (.ref xa), .val (.ref ra), .val (.int p3), .val (.int p4)] [(.int p3), (.ref ra), (.ref oa)])) _
  refine Own.go (fun t k => XS.iloadN X1.here hx rfl (hb hby d10_6) rfl k) ?_
  show Own.Fin p e below (T1.setTop (mkF m 7 #[.val (.ref xa), .val (.ref ra), .val (.int p3), .val (.int p4)] [(.int p4), (.int p3), (.ref ra), (.ref oa)])) _
  refine Own.cV X1 hx hZ hown (hw _ (List.mem_of_getElem? (i := 93) rfl)) (hw _ (List.mem_of_getElem? (i := 94) rfl)) (notFace_of_selects (args := #[]) (mvT hZ (hw _ (List.mem_of_getElem? (i := 96) rfl)))) (hw _ (List.mem_of_getElem? (i := 96) rfl)) (hw _ (List.mem_of_getElem? (i := 95) rfl)) (hw _ (List.mem_of_getElem? (i := 64) rfl)) (hw _ (List.mem_of_getElem? (i := 97) rfl)) (by decide) (rm11 l Z a0 hw [] oa ra p3 p4 cs fs_ fi_ va kC n sN eN ch cc h0 n0 Z0 O0 SC SD SH SL SF SI hcs hc_s hc_i hR gva VC ga hov hro hrv hse he4 hn hcc hp3 hp4) (by decide) (W := 0) (by decide) (argsL := [(.ref ra), (.int p3), (.int p4)]) (rest := []) E0 (by rw [hml]; rfl) (lenOf pd_19 rfl) rfl (Nat.le_of_eq rfl) (hb hby d10_7) e1 (by decide) (by decide) ?_
  intro T2 L2 v2 X2 hQ2
  obtain ⟨va', rfl, N2q, K2q, gv', ho', hf', hR'⟩ := hQ2
  have N2 := Fr.app N0 N2q
  have Z2 : n0 ≤ T2.heap.size := Nat.le_trans Z0 K2q.1
  show Own.Fin p e below (T2.setTop (mkF m 10 #[.val (.ref xa), .val (.ref ra), .val (.int p3), .val (.int p4)] [(.ref oa)])) _
  refine Own.go (fun t k => XS.pop X2.here hx rfl (hb hby d10_10) rfl rfl k) ?_
  show Own.Fin p e below (T2.setTop (mkF m 11 #[.val (.ref xa), .val (.ref ra), .val (.int p3), .val (.int p4)] [])) _
  refine Own.retV X2 hx Bd.notSynchronized Bd.returns (hb hby d10_11) (by decide) (by decide) ?_
  exact ⟨va', rfl, N2, K2q, gv', ho', hf', hR'⟩
theorem own_ext {h0 h1 h2 : Heap} {b : Addr} (E : Ext h0 h1) (K : Keep h1 h2 [b]) (gb : b = h0.size) : Ext h0 h2 := ⟨Nat.le_trans E.1 K.1, fun x c q => K.2.1 x c (E.2 x c q) (fun z => by
  have hlt := (Array.getElem?_eq_some_iff.mp q).1
  rw [List.mem_singleton.mp z, gb] at hlt
  exact Nat.lt_irrefl _ hlt)⟩
theorem d26_0 : decode jdk_65_method_133_code 0 = .ok (.iload_n 1, 1) := by decide +kernel
theorem d26_1 : decode jdk_65_method_133_code 1 = .ok (.iload_n 2, 1) := by decide +kernel
theorem d26_2 : decode jdk_65_method_133_code 2 = .ok (.invokestatic 343, 3) := by decide +kernel
theorem d26_5 : decode jdk_65_method_133_code 5 = .ok (.iload_n 2, 1) := by decide +kernel
theorem d26_6 : decode jdk_65_method_133_code 6 = .ok (.iload_n 1, 1) := by decide +kernel
theorem d26_7 : decode jdk_65_method_133_code 7 = .ok (.isub, 1) := by decide +kernel
theorem d26_8 : decode jdk_65_method_133_code 8 = .ok (.istore_n 3, 1) := by decide +kernel
theorem d26_9 : decode jdk_65_method_133_code 9 = .ok (.iload_n 3, 1) := by decide +kernel
theorem d26_10 : decode jdk_65_method_133_code 10 = .ok (.newarray .byte, 2) := by decide +kernel
theorem d26_12 : decode jdk_65_method_133_code 12 = .ok (.astore 4, 2) := by decide +kernel
theorem d26_14 : decode jdk_65_method_133_code 14 = .ok (.aload_n 0, 1) := by decide +kernel
theorem d26_15 : decode jdk_65_method_133_code 15 = .ok (.iload_n 1, 1) := by decide +kernel
theorem d26_16 : decode jdk_65_method_133_code 16 = .ok (.aload 4, 2) := by decide +kernel
theorem d26_18 : decode jdk_65_method_133_code 18 = .ok (.iconst 0, 1) := by decide +kernel
theorem d26_19 : decode jdk_65_method_133_code 19 = .ok (.aload_n 0, 1) := by decide +kernel
theorem d26_20 : decode jdk_65_method_133_code 20 = .ok (.arraylength, 1) := by decide +kernel
theorem d26_21 : decode jdk_65_method_133_code 21 = .ok (.iload_n 1, 1) := by decide +kernel
theorem d26_22 : decode jdk_65_method_133_code 22 = .ok (.isub, 1) := by decide +kernel
theorem d26_23 : decode jdk_65_method_133_code 23 = .ok (.iload_n 3, 1) := by decide +kernel
theorem d26_24 : decode jdk_65_method_133_code 24 = .ok (.invokestatic 304, 3) := by decide +kernel
theorem d26_27 : decode jdk_65_method_133_code 27 = .ok (.invokestatic 150, 3) := by decide +kernel
theorem d26_30 : decode jdk_65_method_133_code 30 = .ok (.aload 4, 2) := by decide +kernel
theorem d26_32 : decode jdk_65_method_133_code 32 = .ok (.areturn, 1) := by decide +kernel
theorem pd_20 : parseMethodDescriptor "(II)I" = some ⟨[.int, .int], some .int⟩ := by decide +kernel
theorem pn_26 : plainName "java/util/Arrays" = true := by first | (simp [plainName, overriddenIn]; done) | decide +kernel
theorem ef_26 (m : MethodId) (ra : Addr) (p2 : Int32) (p3 : Int32)  : entryFrame m #[(.ref ra), (.int p2), (.int p3)] 5 = mkF m 0 #[.val (.ref ra), .val (.int p2), .val (.int p3), .unset, .unset] [] := by first | (simp [entryFrame, mkF, argsToLocals, Value.category]; done) | rfl
def Q26 (Z : State) (ra : Addr) (p2 : Int32) (p3 : Int32) (kA : ClassId) (zA : Int32) (NA n : Nat) (gA : Nat → Value) (h0 : Heap) (n0 : Nat) : Option Value → Heap → List Loc → Prop := fun v h L => ∃ (b : Addr) (k : ClassId), v = some (.ref b) ∧ Fr n0 L ∧ n0 ≤ b ∧ b = h0.size ∧ Ext h0 h ∧ Arv Z h b k .byte (Int32.ofNat n) (tab n gA) (.int (0 : Int32))
set_option maxRecDepth 65536 in
set_option maxHeartbeats 40000000 in
theorem rm26 (l : Launch) (Z : State) (a0 : Array Value) (hw : ∀ d ∈ tables_1, d.before a0 Z = true) (ws : List Jvm.Cond) (ra : Addr) (p2 : Int32) (p3 : Int32) (kA : ClassId) (zA : Int32) (NA n : Nat) (gA : Nat → Value) (h0 : Heap) (n0 : Nat) (Z0 : n0 ≤ h0.size) (VA : Arv Z h0 ra kA .byte zA (tab NA gA) (.int (0 : Int32))) (hz : zA = Int32.ofNat NA) (hNA : NA ≤ 32) (hnA : n < NA) (hp2 : p2 = (0 : Int32)) (hp3 : p3 = Int32.ofNat n) :
    MetFree l (⟨"java/util/Arrays", "copyOfRangeByte", "([BII)[B"⟩ : MethodName) (head1 (Jvm.Cond.code (⟨"java/util/Arrays", "copyOfRangeByte", "([BII)[B"⟩ : MethodName) jdk_65_method_133_code 5 (some (.array .byte)) :: ws) ({ frames := 1, cells := 1, slots := 32, locals := 40 } : Room)) (fun a U => a = #[(.ref ra), (.int p2), (.int p3)] ∧ Z.Warmed39 U.vm ∧ U.heap = h0) (fun _ _ _ _ _ => True) (fun _ U o U' => ∃ v L, o = .returned v ∧ (Q26 Z ra p2 p3 kA zA NA n gA h0 n0) v U'.heap L ∧ FrameEnd U o U' L ({ frames := 1, cells := 1, slots := 32, locals := 40 } : Room).cells ({ frames := 1, cells := 1, slots := 32, locals := 40 } : Room).slots) := by
  refine MetFree.of_bodySF (plainFor_of_name pn_26) hisR ?_
  intro p e s m args below meth c s₁ Bd hml0 hP hK
  obtain ⟨rfl, hZ, hh⟩ := hP
  have hx := Bd.exec
  have hby := Bd.bytes
  have hml : c.maxLocals = 5 := hml0
  have hown : s.vm.findClass "java/util/Arrays" = some m.cls := findClass_of_methodNamed Bd.named
  have hnm := (name_of_methodNamed Bd.named Bd.method).1
  have X0 : Stand p l e ({ frames := 1, cells := 1, slots := 32, locals := 40 } : Room) s m #[(.ref ra), (.int p2), (.int p3)] below meth c s₁ [] 0 0 := Stand.of_body Bd
  have e0 : s₁.heap = h0 := by rw [← hh, Bd.state]; rfl
  have N0 := Fr.nil n0
  show Own.Fin p e below _ (Own.Post s (Q26 Z ra p2 p3 kA zA NA n gA h0 n0) ({ frames := 1, cells := 1, slots := 32, locals := 40 } : Room).cells ({ frames := 1, cells := 1, slots := 32, locals := 40 } : Room).slots)
  refine Own.start (ef_26 m ra p2 p3) ?_
  show Own.Fin p e below (s₁.setTop (mkF m 0 #[.val (.ref ra), .val (.int p2), .val (.int p3), .unset, .unset] [])) _
  rw [hp2, hp3]
  show Own.Fin p e below (s₁.setTop (mkF m 0 #[.val (.ref ra), .val (.int (0 : Int32)), .val (.int (Int32.ofNat n)), .unset, .unset] [])) _
  refine Own.go (fun t k => XS.iloadN X0.here hx rfl (hb hby d26_0) rfl k) ?_
  show Own.Fin p e below (s₁.setTop (mkF m 1 #[.val (.ref ra), .val (.int (0 : Int32)), .val (.int (Int32.ofNat n)), .unset, .unset] [(.int (0 : Int32))])) _
  refine Own.go (fun t k => XS.iloadN X0.here hx rfl (hb hby d26_1) rfl k) ?_
  show Own.Fin p e below (s₁.setTop (mkF m 2 #[.val (.ref ra), .val (.int (0 : Int32)), .val (.int (Int32.ofNat n)), .unset, .unset] [(.int (Int32.ofNat n)), (.int (0 : Int32))])) _
  refine Own.cS X0 hx hZ hown (hw _ (List.mem_of_getElem? (i := 171) rfl)) (hw _ (List.mem_of_getElem? (i := 172) rfl)) (hw _ (List.mem_of_getElem? (i := 166) rfl)) (hw _ (List.mem_of_getElem? (i := 173) rfl)) (by decide) (rm27 l Z a0 hw [] (0 : Int32) (Int32.ofNat n) h0 n0 Z0 (fun q => absurd ((i_lt n 0 (by omega) (by omega)).mp q) (by omega))) (by decide) (W := 0) (by decide) (argsL := [(.int (0 : Int32)), (.int (Int32.ofNat n))]) (rest := []) (by rw [hml]; rfl) (lenOf pd_6 rfl) rfl (Nat.le_of_eq rfl) (hb hby d26_2) e0 (by decide) (by decide) ?_
  intro T1 L1 v1 X1 hQ1
  obtain ⟨rfl, N1q, e1⟩ := hQ1
  have N1 := Fr.app N0 N1q
  show Own.Fin p e below (T1.setTop (mkF m 5 #[.val (.ref ra), .val (.int (0 : Int32)), .val (.int (Int32.ofNat n)), .unset, .unset] [])) _
  refine Own.go (fun t k => XS.iloadN X1.here hx rfl (hb hby d26_5) rfl k) ?_
  show Own.Fin p e below (T1.setTop (mkF m 6 #[.val (.ref ra), .val (.int (0 : Int32)), .val (.int (Int32.ofNat n)), .unset, .unset] [(.int (Int32.ofNat n))])) _
  refine Own.go (fun t k => XS.iloadN X1.here hx rfl (hb hby d26_6) rfl k) ?_
  show Own.Fin p e below (T1.setTop (mkF m 7 #[.val (.ref ra), .val (.int (0 : Int32)), .val (.int (Int32.ofNat n)), .unset, .unset] [(.int (0 : Int32)), (.int (Int32.ofNat n))])) _
  refine Own.go (fun t k => XS.isub X1.here hx rfl (hb hby d26_7) rfl k) ?_
  show Own.Fin p e below (T1.setTop (mkF m 8 #[.val (.ref ra), .val (.int (0 : Int32)), .val (.int (Int32.ofNat n)), .unset, .unset] [(.int ((Int32.ofNat n) - (0 : Int32)))])) _
  rw [show ((Int32.ofNat n) - (0 : Int32)) = (Int32.ofNat n) from (Int32.ofNat_sub n 0 (Nat.zero_le _)).symm]
  show Own.Fin p e below (T1.setTop (mkF m 8 #[.val (.ref ra), .val (.int (0 : Int32)), .val (.int (Int32.ofNat n)), .unset, .unset] [(.int (Int32.ofNat n))])) _
  refine Own.go (fun t k => XS.istoreN X1.here hx rfl (hb hby d26_8) rfl (l' := #[.val (.ref ra), .val (.int (0 : Int32)), .val (.int (Int32.ofNat n)), .val (.int (Int32.ofNat n)), .unset]) rfl k) ?_
  show Own.Fin p e below (T1.setTop (mkF m 9 #[.val (.ref ra), .val (.int (0 : Int32)), .val (.int (Int32.ofNat n)), .val (.int (Int32.ofNat n)), .unset] [])) _
  refine Own.go (fun t k => XS.iloadN X1.here hx rfl (hb hby d26_9) rfl k) ?_
  show Own.Fin p e below (T1.setTop (mkF m 10 #[.val (.ref ra), .val (.int (0 : Int32)), .val (.int (Int32.ofNat n)), .val (.int (Int32.ofNat n)), .unset] [(.int (Int32.ofNat n))])) _
  refine Own.newA X1 hx hZ (hw _ (List.mem_of_getElem? (i := 11) rfl)) e1 (hb hby d26_10) (fun q => absurd ((i_lt n 0 (by omega) (by omega)).mp q) (by omega)) 32 (by rw [clamp_n n (by omega)]; omega) (by decide) (by decide) (by decide) ?_
  intro T2 h2 b2 k2 X2 e2 E2 gb2 V2
  have ge2 : n0 ≤ b2 := by rw [gb2]; exact Z0
  have ne2_ra : ra ≠ b2 := Nat.ne_of_lt (Nat.lt_of_lt_of_le VA.lt (Nat.le_of_eq gb2.symm))
  have Z2 : n0 ≤ h2.size := Nat.le_trans Z0 E2.1
  have f3 := VA.ext E2
  show Own.Fin p e below (T2.setTop (mkF m 12 #[.val (.ref ra), .val (.int (0 : Int32)), .val (.int (Int32.ofNat n)), .val (.int (Int32.ofNat n)), .unset] [(.ref b2)])) _
  have Vt : Arv Z h2 b2 k2 .byte (Int32.ofNat n) (tab n (fun _ => .int (0 : Int32))) (.int (0 : Int32)) := Arv.pad V2 (tab_nil n _)
  refine Own.go (fun t k => XS.astore X2.here hx rfl (hb hby d26_12) rfl rfl (l' := #[.val (.ref ra), .val (.int (0 : Int32)), .val (.int (Int32.ofNat n)), .val (.int (Int32.ofNat n)), .val (.ref b2)]) rfl k) ?_
  show Own.Fin p e below (T2.setTop (mkF m 14 #[.val (.ref ra), .val (.int (0 : Int32)), .val (.int (Int32.ofNat n)), .val (.int (Int32.ofNat n)), .val (.ref b2)] [])) _
  refine Own.go (fun t k => XS.aloadN X2.here hx rfl (hb hby d26_14) rfl rfl k) ?_
  show Own.Fin p e below (T2.setTop (mkF m 15 #[.val (.ref ra), .val (.int (0 : Int32)), .val (.int (Int32.ofNat n)), .val (.int (Int32.ofNat n)), .val (.ref b2)] [(.ref ra)])) _
  refine Own.go (fun t k => XS.iloadN X2.here hx rfl (hb hby d26_15) rfl k) ?_
  show Own.Fin p e below (T2.setTop (mkF m 16 #[.val (.ref ra), .val (.int (0 : Int32)), .val (.int (Int32.ofNat n)), .val (.int (Int32.ofNat n)), .val (.ref b2)] [(.int (0 : Int32)), (.ref ra)])) _
  refine Own.go (fun t k => XS.aload X2.here hx rfl (hb hby d26_16) rfl rfl k) ?_
  show Own.Fin p e below (T2.setTop (mkF m 18 #[.val (.ref ra), .val (.int (0 : Int32)), .val (.int (Int32.ofNat n)), .val (.int (Int32.ofNat n)), .val (.ref b2)] [(.ref b2), (.int (0 : Int32)), (.ref ra)])) _
  refine Own.go (fun t k => XS.iconst X2.here hx rfl (hb hby d26_18) k) ?_
  show Own.Fin p e below (T2.setTop (mkF m 19 #[.val (.ref ra), .val (.int (0 : Int32)), .val (.int (Int32.ofNat n)), .val (.int (Int32.ofNat n)), .val (.ref b2)] [(.int (0 : Int32)), (.ref b2), (.int (0 : Int32)), (.ref ra)])) _
  refine Own.go (fun t k => XS.aloadN X2.here hx rfl (hb hby d26_19) rfl rfl k) ?_
  show Own.Fin p e below (T2.setTop (mkF m 20 #[.val (.ref ra), .val (.int (0 : Int32)), .val (.int (Int32.ofNat n)), .val (.int (Int32.ofNat n)), .val (.ref b2)] [(.ref ra), (.int (0 : Int32)), (.ref b2), (.int (0 : Int32)), (.ref ra)])) _
  refine Own.alen X2 hx hZ e2 f3 (hb hby d26_20) ?_
  show Own.Fin p e below (T2.setTop (mkF m 21 #[.val (.ref ra), .val (.int (0 : Int32)), .val (.int (Int32.ofNat n)), .val (.int (Int32.ofNat n)), .val (.ref b2)] [(.int zA), (.int (0 : Int32)), (.ref b2), (.int (0 : Int32)), (.ref ra)])) _
  refine Own.go (fun t k => XS.iloadN X2.here hx rfl (hb hby d26_21) rfl k) ?_
  show Own.Fin p e below (T2.setTop (mkF m 22 #[.val (.ref ra), .val (.int (0 : Int32)), .val (.int (Int32.ofNat n)), .val (.int (Int32.ofNat n)), .val (.ref b2)] [(.int (0 : Int32)), (.int zA), (.int (0 : Int32)), (.ref b2), (.int (0 : Int32)), (.ref ra)])) _
  refine Own.go (fun t k => XS.isub X2.here hx rfl (hb hby d26_22) rfl k) ?_
  show Own.Fin p e below (T2.setTop (mkF m 23 #[.val (.ref ra), .val (.int (0 : Int32)), .val (.int (Int32.ofNat n)), .val (.int (Int32.ofNat n)), .val (.ref b2)] [(.int (zA - (0 : Int32))), (.int (0 : Int32)), (.ref b2), (.int (0 : Int32)), (.ref ra)])) _
  rw [show (zA - (0 : Int32)) = (Int32.ofNat NA) from (by rw [hz]; exact (Int32.ofNat_sub NA 0 (Nat.zero_le _)).symm)]
  show Own.Fin p e below (T2.setTop (mkF m 23 #[.val (.ref ra), .val (.int (0 : Int32)), .val (.int (Int32.ofNat n)), .val (.int (Int32.ofNat n)), .val (.ref b2)] [(.int (Int32.ofNat NA)), (.int (0 : Int32)), (.ref b2), (.int (0 : Int32)), (.ref ra)])) _
  refine Own.go (fun t k => XS.iloadN X2.here hx rfl (hb hby d26_23) rfl k) ?_
  show Own.Fin p e below (T2.setTop (mkF m 24 #[.val (.ref ra), .val (.int (0 : Int32)), .val (.int (Int32.ofNat n)), .val (.int (Int32.ofNat n)), .val (.ref b2)] [(.int (Int32.ofNat n)), (.int (Int32.ofNat NA)), (.int (0 : Int32)), (.ref b2), (.int (0 : Int32)), (.ref ra)])) _
  refine Own.cS X2 hx hZ hown (hw _ (List.mem_of_getElem? (i := 174) rfl)) (hw _ (List.mem_of_getElem? (i := 175) rfl)) (hw _ (List.mem_of_getElem? (i := 176) rfl)) (hw _ (List.mem_of_getElem? (i := 177) rfl)) (by decide) (rm28 l Z a0 hw [] (Int32.ofNat NA) (Int32.ofNat n) h2 n0 Z2 ((i_lt n NA (by omega) (by omega)).mpr hnA)) (by decide) (W := 4) (by decide) (argsL := [(.int (Int32.ofNat NA)), (.int (Int32.ofNat n))]) (rest := [(.int (0 : Int32)), (.ref b2), (.int (0 : Int32)), (.ref ra)]) (by rw [hml]; rfl) (lenOf pd_20 rfl) rfl (Nat.le_of_eq rfl) (hb hby d26_24) e2 (by decide) (by decide) ?_
  intro T4 L4 v4 X4 hQ4
  obtain ⟨rfl, N4q, e4⟩ := hQ4
  have N4 := Fr.app N1 N4q
  show Own.Fin p e below (T4.setTop (mkF m 27 #[.val (.ref ra), .val (.int (0 : Int32)), .val (.int (Int32.ofNat n)), .val (.int (Int32.ofNat n)), .val (.ref b2)] [(.int (Int32.ofNat n)), (.int (0 : Int32)), (.ref b2), (.int (0 : Int32)), (.ref ra)])) _
  refine own_ac X4 hx hZ hown (hw _ (List.mem_of_getElem? (i := 178) rfl)) (hw _ (List.mem_of_getElem? (i := 181) rfl)) (hw _ (List.mem_of_getElem? (i := 179) rfl)) (hw _ (List.mem_of_getElem? (i := 180) rfl)) e4 f3 Vt hz rfl (by omega) (by omega) (by omega) (Nat.le_refl n) rfl (by rw [hml]; rfl) (hb hby d26_27) (W := 0) (Nat.le_of_eq rfl) (by decide) (by decide) ?_
  intro T5 h5 X5 e5 K5 V5
  have N5 := Fr.app N4 (own_frc (n := n) ge2)
  show Own.Fin p e below (T5.setTop (mkF m 30 #[.val (.ref ra), .val (.int (0 : Int32)), .val (.int (Int32.ofNat n)), .val (.int (Int32.ofNat n)), .val (.ref b2)] [])) _
  refine Own.go (fun t k => XS.aload X5.here hx rfl (hb hby d26_30) rfl rfl k) ?_
  show Own.Fin p e below (T5.setTop (mkF m 32 #[.val (.ref ra), .val (.int (0 : Int32)), .val (.int (Int32.ofNat n)), .val (.int (Int32.ofNat n)), .val (.ref b2)] [(.ref b2)])) _
  refine Own.retR X5 hx Bd.notSynchronized Bd.returns rfl rfl (hb hby d26_32) (by decide) (by decide) ?_
  exact ⟨b2, k2, rfl, N5, ge2, gb2, by rw [e5]; exact own_ext E2 K5 gb2, by rw [e5]; exact Arv.pad V5 (tab_pad fun i hi => (if_pos hi).symm)⟩
theorem d25_0 : decode jdk_65_method_132_code 0 = .ok (.iload_n 1, 1) := by decide +kernel
theorem d25_1 : decode jdk_65_method_132_code 1 = .ok (.ifCond .ne 9, 3) := by decide +kernel
theorem d25_4 : decode jdk_65_method_132_code 4 = .ok (.iload_n 2, 1) := by decide +kernel
theorem d25_5 : decode jdk_65_method_132_code 5 = .ok (.aload_n 0, 1) := by decide +kernel
theorem d25_6 : decode jdk_65_method_132_code 6 = .ok (.arraylength, 1) := by decide +kernel
theorem d25_7 : decode jdk_65_method_132_code 7 = .ok (.if_icmp .eq 10, 3) := by decide +kernel
theorem d25_10 : decode jdk_65_method_132_code 10 = .ok (.aload_n 0, 1) := by decide +kernel
theorem d25_11 : decode jdk_65_method_132_code 11 = .ok (.iload_n 1, 1) := by decide +kernel
theorem d25_12 : decode jdk_65_method_132_code 12 = .ok (.iload_n 2, 1) := by decide +kernel
theorem d25_13 : decode jdk_65_method_132_code 13 = .ok (.invokestatic 339, 3) := by decide +kernel
theorem d25_16 : decode jdk_65_method_132_code 16 = .ok (.areturn, 1) := by decide +kernel
theorem pd_21 : parseMethodDescriptor "([BII)[B" = some ⟨[(.array .byte), .int, .int], some (.array .byte)⟩ := by decide +kernel
theorem pn_25 : plainName "java/util/Arrays" = true := by first | (simp [plainName, overriddenIn]; done) | decide +kernel
theorem ef_25 (m : MethodId) (ra : Addr) (p2 : Int32) (p3 : Int32)  : entryFrame m #[(.ref ra), (.int p2), (.int p3)] 3 = mkF m 0 #[.val (.ref ra), .val (.int p2), .val (.int p3)] [] := by first | (simp [entryFrame, mkF, argsToLocals, Value.category]; done) | rfl
def Q25 (Z : State) (ra : Addr) (p2 : Int32) (p3 : Int32) (kA : ClassId) (zA : Int32) (NA n : Nat) (gA : Nat → Value) (h0 : Heap) (n0 : Nat) : Option Value → Heap → List Loc → Prop := fun v h L => ∃ (b : Addr) (k : ClassId), v = some (.ref b) ∧ Fr n0 L ∧ n0 ≤ b ∧ b = h0.size ∧ Ext h0 h ∧ Arv Z h b k .byte (Int32.ofNat n) (tab n gA) (.int (0 : Int32))
set_option maxRecDepth 65536 in
set_option maxHeartbeats 40000000 in
theorem rm25 (l : Launch) (Z : State) (a0 : Array Value) (hw : ∀ d ∈ tables_1, d.before a0 Z = true) (ws : List Jvm.Cond) (ra : Addr) (p2 : Int32) (p3 : Int32) (kA : ClassId) (zA : Int32) (NA n : Nat) (gA : Nat → Value) (h0 : Heap) (n0 : Nat) (Z0 : n0 ≤ h0.size) (VA : Arv Z h0 ra kA .byte zA (tab NA gA) (.int (0 : Int32))) (hz : zA = Int32.ofNat NA) (hNA : NA ≤ 32) (hnA : n < NA) (hp2 : p2 = (0 : Int32)) (hp3 : p3 = Int32.ofNat n) :
    MetFree l (⟨"java/util/Arrays", "copyOfRange", "([BII)[B"⟩ : MethodName) (head1 (Jvm.Cond.code (⟨"java/util/Arrays", "copyOfRange", "([BII)[B"⟩ : MethodName) jdk_65_method_132_code 3 (some (.array .byte)) :: ws) ({ frames := 2, cells := 1, slots := 32, locals := 56 } : Room)) (fun a U => a = #[(.ref ra), (.int p2), (.int p3)] ∧ Z.Warmed39 U.vm ∧ U.heap = h0) (fun _ _ _ _ _ => True) (fun _ U o U' => ∃ v L, o = .returned v ∧ (Q25 Z ra p2 p3 kA zA NA n gA h0 n0) v U'.heap L ∧ FrameEnd U o U' L ({ frames := 2, cells := 1, slots := 32, locals := 56 } : Room).cells ({ frames := 2, cells := 1, slots := 32, locals := 56 } : Room).slots) := by
  refine MetFree.of_bodySF (plainFor_of_name pn_25) hisR ?_
  intro p e s m args below meth c s₁ Bd hml0 hP hK
  obtain ⟨rfl, hZ, hh⟩ := hP
  have hx := Bd.exec
  have hby := Bd.bytes
  have hml : c.maxLocals = 3 := hml0
  have hown : s.vm.findClass "java/util/Arrays" = some m.cls := findClass_of_methodNamed Bd.named
  have hnm := (name_of_methodNamed Bd.named Bd.method).1
  have X0 : Stand p l e ({ frames := 2, cells := 1, slots := 32, locals := 56 } : Room) s m #[(.ref ra), (.int p2), (.int p3)] below meth c s₁ [] 0 0 := Stand.of_body Bd
  have e0 : s₁.heap = h0 := by rw [← hh, Bd.state]; rfl
  have N0 := Fr.nil n0
  show Own.Fin p e below _ (Own.Post s (Q25 Z ra p2 p3 kA zA NA n gA h0 n0) ({ frames := 2, cells := 1, slots := 32, locals := 56 } : Room).cells ({ frames := 2, cells := 1, slots := 32, locals := 56 } : Room).slots)
  refine Own.start (ef_25 m ra p2 p3) ?_
  show Own.Fin p e below (s₁.setTop (mkF m 0 #[.val (.ref ra), .val (.int p2), .val (.int p3)] [])) _
  refine Own.go (fun t k => XS.iloadN X0.here hx rfl (hb hby d25_0) rfl k) ?_
  show Own.Fin p e below (s₁.setTop (mkF m 1 #[.val (.ref ra), .val (.int p2), .val (.int p3)] [(.int p2)])) _
  have hc1_0 : p2 = (0 : Int32) := hp2
  refine Own.go (fun t k => XS.ifNo X0.here hx rfl (hb hby d25_1) rfl ((if0 _ _).trans (teq hc1_0).2) k) ?_
  show Own.Fin p e below (s₁.setTop (mkF m 4 #[.val (.ref ra), .val (.int p2), .val (.int p3)] [])) _
  refine Own.go (fun t k => XS.iloadN X0.here hx rfl (hb hby d25_4) rfl k) ?_
  show Own.Fin p e below (s₁.setTop (mkF m 5 #[.val (.ref ra), .val (.int p2), .val (.int p3)] [(.int p3)])) _
  refine Own.go (fun t k => XS.aloadN X0.here hx rfl (hb hby d25_5) rfl rfl k) ?_
  show Own.Fin p e below (s₁.setTop (mkF m 6 #[.val (.ref ra), .val (.int p2), .val (.int p3)] [(.ref ra), (.int p3)])) _
  refine Own.alen X0 hx hZ e0 VA (hb hby d25_6) ?_
  show Own.Fin p e below (s₁.setTop (mkF m 7 #[.val (.ref ra), .val (.int p2), .val (.int p3)] [(.int zA), (.int p3)])) _
  have hc7_1 : ¬ (p3 = zA) := (by rw [hp3, hz]; exact fun q => absurd (congrArg Int32.toInt q) (by rw [Int32.toInt_ofNat_small (by omega), Int32.toInt_ofNat_small (by omega)]; omega))
  refine Own.go (fun t k => XS.icmpNo X0.here hx rfl (hb hby d25_7) rfl (feq hc7_1).1 k) ?_
  show Own.Fin p e below (s₁.setTop (mkF m 10 #[.val (.ref ra), .val (.int p2), .val (.int p3)] [])) _
  refine Own.go (fun t k => XS.aloadN X0.here hx rfl (hb hby d25_10) rfl rfl k) ?_
  show Own.Fin p e below (s₁.setTop (mkF m 11 #[.val (.ref ra), .val (.int p2), .val (.int p3)] [(.ref ra)])) _
  refine Own.go (fun t k => XS.iloadN X0.here hx rfl (hb hby d25_11) rfl k) ?_
  show Own.Fin p e below (s₁.setTop (mkF m 12 #[.val (.ref ra), .val (.int p2), .val (.int p3)] [(.int p2), (.ref ra)])) _
  refine Own.go (fun t k => XS.iloadN X0.here hx rfl (hb hby d25_12) rfl k) ?_
  show Own.Fin p e below (s₁.setTop (mkF m 13 #[.val (.ref ra), .val (.int p2), .val (.int p3)] [(.int p3), (.int p2), (.ref ra)])) _
  refine Own.cS X0 hx hZ hown (hw _ (List.mem_of_getElem? (i := 168) rfl)) (hw _ (List.mem_of_getElem? (i := 169) rfl)) (hw _ (List.mem_of_getElem? (i := 166) rfl)) (hw _ (List.mem_of_getElem? (i := 170) rfl)) (by decide) (rm26 l Z a0 hw [] ra p2 p3 kA zA NA n gA h0 n0 Z0 VA hz hNA hnA hp2 hp3) (by decide) (W := 0) (by decide) (argsL := [(.ref ra), (.int p2), (.int p3)]) (rest := []) (by rw [hml]; rfl) (lenOf pd_21 rfl) rfl (Nat.le_of_eq rfl) (hb hby d25_13) e0 (by decide) (by decide) ?_
  intro T3 L3 v3 X3 hQ3
  obtain ⟨b3, k3, rfl, N3q, ge3, gb3, E3, V3⟩ := hQ3
  have N3 := Fr.app N0 N3q
  show Own.Fin p e below (T3.setTop (mkF m 16 #[.val (.ref ra), .val (.int p2), .val (.int p3)] [(.ref b3)])) _
  refine Own.retR X3 hx Bd.notSynchronized Bd.returns rfl rfl (hb hby d25_16) (by decide) (by decide) ?_
  exact ⟨b3, k3, rfl, N3, ge3, gb3, E3, V3⟩
def STRR (Z : State) (h : Heap) (ta : Addr) (ch : Nat → Nat) (n : Nat) : Prop := Exa Z h ta "java/lang/String" ∧ ∃ (b : Addr) (k : ClassId) (g : Nat → Value), Fld Z h ta "java/lang/String" "value" "[B" (.ref b) ∧
  ((Fld Z h ta "java/lang/String" "coder" "B" (.int (0 : Int32)) ∧ Arv Z h b k .byte (Int32.ofNat n) (tab n g) (.int (0 : Int32)) ∧ ∀ i < n, g i = .int (sb (ch i)) ∧ ch i < 256) ∨
   (Fld Z h ta "java/lang/String" "coder" "B" (.int (1 : Int32)) ∧ Arv Z h b k .byte (Int32.ofNat (2 * n)) (tab (2 * n) g) (.int (0 : Int32)) ∧ U16of g ch n))
theorem d21_0 : decode jdk_42_method_150_code 0 = .ok (.aload_n 0, 1) := by decide +kernel
theorem d21_1 : decode jdk_42_method_150_code 1 = .ok (.invokespecial 1, 3) := by decide +kernel
theorem d21_4 : decode jdk_42_method_150_code 4 = .ok (.aload_n 1, 1) := by decide +kernel
theorem d21_5 : decode jdk_42_method_150_code 5 = .ok (.invokevirtual 552, 3) := by decide +kernel
theorem d21_8 : decode jdk_42_method_150_code 8 = .ok (.astore_n 3, 1) := by decide +kernel
theorem d21_9 : decode jdk_42_method_150_code 9 = .ok (.aload_n 1, 1) := by decide +kernel
theorem d21_10 : decode jdk_42_method_150_code 10 = .ok (.invokevirtual 549, 3) := by decide +kernel
theorem d21_13 : decode jdk_42_method_150_code 13 = .ok (.istore 4, 2) := by decide +kernel
theorem d21_15 : decode jdk_42_method_150_code 15 = .ok (.aload_n 1, 1) := by decide +kernel
theorem d21_16 : decode jdk_42_method_150_code 16 = .ok (.invokevirtual 1047, 3) := by decide +kernel
theorem d21_19 : decode jdk_42_method_150_code 19 = .ok (.ifCond .eq 22, 3) := by decide +kernel
theorem d21_22 : decode jdk_42_method_150_code 22 = .ok (.aload_n 0, 1) := by decide +kernel
theorem d21_23 : decode jdk_42_method_150_code 23 = .ok (.iconst 0, 1) := by decide +kernel
theorem d21_24 : decode jdk_42_method_150_code 24 = .ok (.putfield 15, 3) := by decide +kernel
theorem d21_27 : decode jdk_42_method_150_code 27 = .ok (.aload_n 0, 1) := by decide +kernel
theorem d21_28 : decode jdk_42_method_150_code 28 = .ok (.aload_n 3, 1) := by decide +kernel
theorem d21_29 : decode jdk_42_method_150_code 29 = .ok (.iconst 0, 1) := by decide +kernel
theorem d21_30 : decode jdk_42_method_150_code 30 = .ok (.iload 4, 2) := by decide +kernel
theorem d21_32 : decode jdk_42_method_150_code 32 = .ok (.invokestatic 54, 3) := by decide +kernel
theorem d21_35 : decode jdk_42_method_150_code 35 = .ok (.putfield 9, 3) := by decide +kernel
theorem d21_38 : decode jdk_42_method_150_code 38 = .ok (.goto 59, 3) := by decide +kernel
theorem d21_41 : decode jdk_42_method_150_code 41 = .ok (.getstatic 38, 3) := by decide +kernel
theorem d21_44 : decode jdk_42_method_150_code 44 = .ok (.ifCond .eq 35, 3) := by decide +kernel
theorem d21_47 : decode jdk_42_method_150_code 47 = .ok (.aload_n 1, 1) := by decide +kernel
theorem d21_48 : decode jdk_42_method_150_code 48 = .ok (.getfield 1048, 3) := by decide +kernel
theorem d21_51 : decode jdk_42_method_150_code 51 = .ok (.ifCond .eq 28, 3) := by decide +kernel
theorem d21_79 : decode jdk_42_method_150_code 79 = .ok (.aload_n 0, 1) := by decide +kernel
theorem d21_80 : decode jdk_42_method_150_code 80 = .ok (.iconst 1, 1) := by decide +kernel
theorem d21_81 : decode jdk_42_method_150_code 81 = .ok (.putfield 15, 3) := by decide +kernel
theorem d21_84 : decode jdk_42_method_150_code 84 = .ok (.aload_n 0, 1) := by decide +kernel
theorem d21_85 : decode jdk_42_method_150_code 85 = .ok (.aload_n 3, 1) := by decide +kernel
theorem d21_86 : decode jdk_42_method_150_code 86 = .ok (.iconst 0, 1) := by decide +kernel
theorem d21_87 : decode jdk_42_method_150_code 87 = .ok (.iload 4, 2) := by decide +kernel
theorem d21_89 : decode jdk_42_method_150_code 89 = .ok (.iconst 1, 1) := by decide +kernel
theorem d21_90 : decode jdk_42_method_150_code 90 = .ok (.ishl, 1) := by decide +kernel
theorem d21_91 : decode jdk_42_method_150_code 91 = .ok (.invokestatic 54, 3) := by decide +kernel
theorem d21_94 : decode jdk_42_method_150_code 94 = .ok (.putfield 9, 3) := by decide +kernel
theorem d21_97 : decode jdk_42_method_150_code 97 = .ok (.return_, 1) := by decide +kernel
theorem pd_22 : parseMethodDescriptor "()[B" = some ⟨[], some (.array .byte)⟩ := by decide +kernel
theorem pn_21 : plainName "java/lang/String" = true := by first | (simp [plainName, overriddenIn]; done) | decide +kernel
theorem ef_21 (m : MethodId) (ta : Addr) (oa : Addr)  : entryFrame m #[(.ref ta), (.ref oa), .null] 5 = mkF m 0 #[.val (.ref ta), .val (.ref oa), .val .null, .unset, .unset] [] := by first | (simp [entryFrame, mkF, argsToLocals, Value.category]; done) | rfl
def Q21 (Z : State) (ta : Addr) (oa : Addr) (cs : Int32) (va : Addr) (n : Nat) (ch : Nat → Nat) (h0 : Heap) (n0 : Nat) : Option Value → Heap → List Loc → Prop := fun v h L => v = none ∧ Fr n0 L ∧ Keep h0 h [ta] ∧ STRR Z h ta ch n
set_option maxRecDepth 65536 in
set_option maxHeartbeats 40000000 in
theorem rm21 (l : Launch) (Z : State) (a0 : Array Value) (hw : ∀ d ∈ tables_1, d.before a0 Z = true) (ws : List Jvm.Cond) (ta : Addr) (oa : Addr) (cs : Int32) (va : Addr) (n : Nat) (ch : Nat → Nat) (h0 : Heap) (n0 : Nat) (Z0 : n0 ≤ h0.size) (O0 : Old Z n0 h0) (SC : Sta Z Z.heap "java/lang/String" "COMPACT_STRINGS" "Z" (.int cs)) (hcs : ¬ cs = (0 : Int32)) (Et : Exa Z h0 ta "java/lang/String") (Ft_value : Fld Z h0 ta "java/lang/String" "value" "[B" .null) (Ft_coder : Fld Z h0 ta "java/lang/String" "coder" "B" (.int (0 : Int32))) (gt_ : n0 ≤ ta) (hto : ta ≠ oa) (htv : ta ≠ va) (hR : SBR Z h0 oa va ch n) (hov : oa ≠ va) (hn : n ≤ 8) :
    MetFree l (⟨"java/lang/String", "<init>", "(Ljava/lang/AbstractStringBuilder;Ljava/lang/Void;)V"⟩ : MethodName) (head1 (Jvm.Cond.code (⟨"java/lang/String", "<init>", "(Ljava/lang/AbstractStringBuilder;Ljava/lang/Void;)V"⟩ : MethodName) jdk_42_method_150_code 5 none :: ws) ({ frames := 3, cells := 1, slots := 32, locals := 80 } : Room)) (fun a U => a = #[(.ref ta), (.ref oa), .null] ∧ Z.Warmed39 U.vm ∧ U.heap = h0) (fun _ _ _ _ _ => True) (fun _ U o U' => ∃ v L, o = .returned v ∧ (Q21 Z ta oa cs va n ch h0 n0) v U'.heap L ∧ FrameEnd U o U' L ({ frames := 3, cells := 1, slots := 32, locals := 80 } : Room).cells ({ frames := 3, cells := 1, slots := 32, locals := 80 } : Room).slots) := by
  refine MetFree.of_bodySF (plainFor_of_name pn_21) hisR ?_
  intro p e s m args below meth c s₁ Bd hml0 hP hK
  obtain ⟨rfl, hZ, hh⟩ := hP
  have hx := Bd.exec
  have hby := Bd.bytes
  have hml : c.maxLocals = 5 := hml0
  have hown : s.vm.findClass "java/lang/String" = some m.cls := findClass_of_methodNamed Bd.named
  have hnm := (name_of_methodNamed Bd.named Bd.method).1
  have X0 : Stand p l e ({ frames := 3, cells := 1, slots := 32, locals := 80 } : Room) s m #[(.ref ta), (.ref oa), .null] below meth c s₁ [] 0 0 := Stand.of_body Bd
  have e0 : s₁.heap = h0 := by rw [← hh, Bd.state]; rfl
  have N0 := Fr.nil n0
  show Own.Fin p e below _ (Own.Post s (Q21 Z ta oa cs va n ch h0 n0) ({ frames := 3, cells := 1, slots := 32, locals := 80 } : Room).cells ({ frames := 3, cells := 1, slots := 32, locals := 80 } : Room).slots)
  refine Own.start (ef_21 m ta oa) ?_
  show Own.Fin p e below (s₁.setTop (mkF m 0 #[.val (.ref ta), .val (.ref oa), .val .null, .unset, .unset] [])) _
  obtain ⟨E0, F_count, F_maybeLatin1, F_value, hor⟩ := hR
  rcases hor with ⟨kA, gA, F_coder, VA, hA⟩ | ⟨kA, gA, F_coder, VA, hU⟩
  · skip
    show Own.Fin p e below (s₁.setTop (mkF m 0 #[.val (.ref ta), .val (.ref oa), .val .null, .unset, .unset] [])) _
    refine Own.go (fun t k => XS.aloadN X0.here hx rfl (hb hby d21_0) rfl rfl k) ?_
    show Own.Fin p e below (s₁.setTop (mkF m 1 #[.val (.ref ta), .val (.ref oa), .val .null, .unset, .unset] [(.ref ta)])) _
    obtain ⟨T1, X1, e1, st1⟩ := initO X0 hx hZ hown (hw _ (List.mem_of_getElem? (i := 148) rfl)) (hw _ (List.mem_of_getElem? (i := 25) rfl)) (hw _ (List.mem_of_getElem? (i := 26) rfl)) e0 (g := (mkF m 1 #[.val (.ref ta), .val (.ref oa), .val .null, .unset, .unset] [(.ref ta)])) rfl (by rw [hml]; rfl) rfl (hb hby d21_1) (by decide) (W := 0) (by show 2 * 0 + _ ≤ _; exact Nat.le_of_eq rfl) (by decide)
    refine Own.go st1 ?_
    show Own.Fin p e below (T1.setTop (mkF m 4 #[.val (.ref ta), .val (.ref oa), .val .null, .unset, .unset] [])) _
    refine Own.go (fun t k => XS.aloadN X1.here hx rfl (hb hby d21_4) rfl rfl k) ?_
    show Own.Fin p e below (T1.setTop (mkF m 5 #[.val (.ref ta), .val (.ref oa), .val .null, .unset, .unset] [(.ref oa)])) _
    refine Own.cV X1 hx hZ hown (hw _ (List.mem_of_getElem? (i := 149) rfl)) (hw _ (List.mem_of_getElem? (i := 150) rfl)) (notFace_of_selects (args := #[]) (mvT hZ (hw _ (List.mem_of_getElem? (i := 152) rfl)))) (hw _ (List.mem_of_getElem? (i := 152) rfl)) (hw _ (List.mem_of_getElem? (i := 151) rfl)) (hw _ (List.mem_of_getElem? (i := 72) rfl)) (hw _ (List.mem_of_getElem? (i := 153) rfl)) (by decide) (rm22 l Z a0 hw [] oa va h0 n0 Z0 F_value) (by decide) (W := 0) (by decide) (argsL := []) (rest := []) E0 (by rw [hml]; rfl) (lenOf pd_22 rfl) rfl (Nat.le_of_eq rfl) (hb hby d21_5) e1 (by decide) (by decide) ?_
    intro T2 L2 v2 X2 hQ2
    obtain ⟨rfl, N2q, e2⟩ := hQ2
    have N2 := Fr.app N0 N2q
    show Own.Fin p e below (T2.setTop (mkF m 8 #[.val (.ref ta), .val (.ref oa), .val .null, .unset, .unset] [(.ref va)])) _
    refine Own.go (fun t k => XS.astoreN X2.here hx rfl (hb hby d21_8) rfl rfl (l' := #[.val (.ref ta), .val (.ref oa), .val .null, .val (.ref va), .unset]) rfl k) ?_
    show Own.Fin p e below (T2.setTop (mkF m 9 #[.val (.ref ta), .val (.ref oa), .val .null, .val (.ref va), .unset] [])) _
    refine Own.go (fun t k => XS.aloadN X2.here hx rfl (hb hby d21_9) rfl rfl k) ?_
    show Own.Fin p e below (T2.setTop (mkF m 10 #[.val (.ref ta), .val (.ref oa), .val .null, .val (.ref va), .unset] [(.ref oa)])) _
    refine Own.cV X2 hx hZ hown (hw _ (List.mem_of_getElem? (i := 154) rfl)) (hw _ (List.mem_of_getElem? (i := 155) rfl)) (own_nf (a := #[]) (mvT hZ (hw _ (List.mem_of_getElem? (i := 152) rfl))) rfl) (hw _ (List.mem_of_getElem? (i := 157) rfl)) (hw _ (List.mem_of_getElem? (i := 158) rfl)) (hw _ (List.mem_of_getElem? (i := 64) rfl)) (hw _ (List.mem_of_getElem? (i := 159) rfl)) (by decide) (rm23 l Z a0 hw [] oa (Int32.ofNat n) h0 n0 Z0 E0 F_count) (by decide) (W := 0) (by decide) (argsL := []) (rest := []) E0 (by rw [hml]; rfl) (lenOf pd_11 rfl) rfl (Nat.le_of_eq rfl) (hb hby d21_10) e2 (by decide) (by decide) ?_
    intro T3 L3 v3 X3 hQ3
    obtain ⟨rfl, N3q, e3⟩ := hQ3
    have N3 := Fr.app N2 N3q
    show Own.Fin p e below (T3.setTop (mkF m 13 #[.val (.ref ta), .val (.ref oa), .val .null, .val (.ref va), .unset] [(.int (Int32.ofNat n))])) _
    refine Own.go (fun t k => XS.istore X3.here hx rfl (hb hby d21_13) rfl (l' := #[.val (.ref ta), .val (.ref oa), .val .null, .val (.ref va), .val (.int (Int32.ofNat n))]) rfl k) ?_
    show Own.Fin p e below (T3.setTop (mkF m 15 #[.val (.ref ta), .val (.ref oa), .val .null, .val (.ref va), .val (.int (Int32.ofNat n))] [])) _
    refine Own.go (fun t k => XS.aloadN X3.here hx rfl (hb hby d21_15) rfl rfl k) ?_
    show Own.Fin p e below (T3.setTop (mkF m 16 #[.val (.ref ta), .val (.ref oa), .val .null, .val (.ref va), .val (.int (Int32.ofNat n))] [(.ref oa)])) _
    refine Own.cV X3 hx hZ hown (hw _ (List.mem_of_getElem? (i := 162) rfl)) (hw _ (List.mem_of_getElem? (i := 122) rfl)) (notFace_of_selects (args := #[]) (mvT hZ (hw _ (List.mem_of_getElem? (i := 124) rfl)))) (hw _ (List.mem_of_getElem? (i := 124) rfl)) (hw _ (List.mem_of_getElem? (i := 123) rfl)) (hw _ (List.mem_of_getElem? (i := 72) rfl)) (hw _ (List.mem_of_getElem? (i := 125) rfl)) (by decide) (rm16 l Z a0 hw [] oa cs (0 : Int32) h0 n0 Z0 O0 SC hcs F_coder) (by decide) (W := 0) (by decide) (argsL := []) (rest := []) E0 (by rw [hml]; rfl) (lenOf pd_12 rfl) rfl (Nat.le_of_eq rfl) (hb hby d21_16) e3 (by decide) (by decide) ?_
    intro T4 L4 v4 X4 hQ4
    obtain ⟨rfl, N4q, e4⟩ := hQ4
    have N4 := Fr.app N3 N4q
    show Own.Fin p e below (T4.setTop (mkF m 19 #[.val (.ref ta), .val (.ref oa), .val .null, .val (.ref va), .val (.int (Int32.ofNat n))] [(.int (F_isl (0 : Int32)))])) _
    have hc19_4 : ¬ ((F_isl (0 : Int32)) = (0 : Int32)) := by decide
    refine Own.go (fun t k => XS.ifNo X4.here hx rfl (hb hby d21_19) rfl ((if0 _ _).trans (feq hc19_4).1) k) ?_
    show Own.Fin p e below (T4.setTop (mkF m 22 #[.val (.ref ta), .val (.ref oa), .val .null, .val (.ref va), .val (.int (Int32.ofNat n))] [])) _
    refine Own.go (fun t k => XS.aloadN X4.here hx rfl (hb hby d21_22) rfl rfl k) ?_
    show Own.Fin p e below (T4.setTop (mkF m 23 #[.val (.ref ta), .val (.ref oa), .val .null, .val (.ref va), .val (.int (Int32.ofNat n))] [(.ref ta)])) _
    refine Own.go (fun t k => XS.iconst X4.here hx rfl (hb hby d21_23) k) ?_
    show Own.Fin p e below (T4.setTop (mkF m 24 #[.val (.ref ta), .val (.ref oa), .val .null, .val (.ref va), .val (.int (Int32.ofNat n))] [(.int (0 : Int32)), (.ref ta)])) _
    obtain ⟨T6, h6, X6, e6, W6, st6⟩ := putFN X4 hx hZ hown (hw _ (List.mem_of_getElem? (i := 163) rfl)) Via.refl e4 Ft_coder Et (Or.inr ⟨(hw _ (List.mem_of_getElem? (i := 13) rfl)), rfl, hnm⟩) (hw _ (List.mem_of_getElem? (i := 10) rfl)) (ty := .byte) (v' := (.int (nar .byte (0 : Int32)))) (by decide) rfl (fits_nar_byte _) (g := (mkF m 24 #[.val (.ref ta), .val (.ref oa), .val .null, .val (.ref va), .val (.int (Int32.ofNat n))] [(.int (0 : Int32)), (.ref ta)])) rfl rfl (hb hby d21_24)
    refine Own.go st6 ?_
    have f7 := Ft_coder.same W6
    have N6 := Fr.snoc X6 N4 gt_
    have Z6 : n0 ≤ h6.size := by rw [W6.size]; exact Z0
    have f8 := Et.wr W6
    have f9 := Ft_value.other W6 (Or.inr (slot_ne (Or.inr (hw _ (List.mem_of_getElem? (i := 12) rfl))) (Or.inr (hw _ (List.mem_of_getElem? (i := 13) rfl))) (by decide) (t := (.array .byte)) (t' := .byte) (by decide) (by decide)))
    have f10 := E0.wr W6
    have f11 := F_value.other W6 (Or.inl (Ne.symm hto))
    have f12 := F_coder.other W6 (Or.inl (Ne.symm hto))
    have f13 := F_count.other W6 (Or.inl (Ne.symm hto))
    have f14 := F_maybeLatin1.other W6 (Or.inl (Ne.symm hto))
    have f15 := VA.other W6 (Ne.symm htv)
    have K6 := (Keep.refl h0 [ta]).wr W6 (Or.inl (List.mem_cons_self ..))
    have O6 := O0.wr W6 gt_
    show Own.Fin p e below (T6.setTop (mkF m 27 #[.val (.ref ta), .val (.ref oa), .val .null, .val (.ref va), .val (.int (Int32.ofNat n))] [])) _
    refine Own.go (fun t k => XS.aloadN X6.here hx rfl (hb hby d21_27) rfl rfl k) ?_
    show Own.Fin p e below (T6.setTop (mkF m 28 #[.val (.ref ta), .val (.ref oa), .val .null, .val (.ref va), .val (.int (Int32.ofNat n))] [(.ref ta)])) _
    refine Own.go (fun t k => XS.aloadN X6.here hx rfl (hb hby d21_28) rfl rfl k) ?_
    show Own.Fin p e below (T6.setTop (mkF m 29 #[.val (.ref ta), .val (.ref oa), .val .null, .val (.ref va), .val (.int (Int32.ofNat n))] [(.ref va), (.ref ta)])) _
    refine Own.go (fun t k => XS.iconst X6.here hx rfl (hb hby d21_29) k) ?_
    show Own.Fin p e below (T6.setTop (mkF m 30 #[.val (.ref ta), .val (.ref oa), .val .null, .val (.ref va), .val (.int (Int32.ofNat n))] [(.int (0 : Int32)), (.ref va), (.ref ta)])) _
    refine Own.go (fun t k => XS.iload X6.here hx rfl (hb hby d21_30) rfl k) ?_
    show Own.Fin p e below (T6.setTop (mkF m 32 #[.val (.ref ta), .val (.ref oa), .val .null, .val (.ref va), .val (.int (Int32.ofNat n))] [(.int (Int32.ofNat n)), (.int (0 : Int32)), (.ref va), (.ref ta)])) _
    refine Own.cS X6 hx hZ hown (hw _ (List.mem_of_getElem? (i := 164) rfl)) (hw _ (List.mem_of_getElem? (i := 165) rfl)) (hw _ (List.mem_of_getElem? (i := 166) rfl)) (hw _ (List.mem_of_getElem? (i := 167) rfl)) (by decide) (rm25 l Z a0 hw [] va (0 : Int32) (Int32.ofNat n) kA (16 : Int32) 16 n gA h6 n0 Z6 f15 rfl (by decide) (by omega) rfl rfl) (by decide) (W := 1) (by decide) (argsL := [(.ref va), (.int (0 : Int32)), (.int (Int32.ofNat n))]) (rest := [(.ref ta)]) (by rw [hml]; rfl) (lenOf pd_21 rfl) rfl (Nat.le_of_eq rfl) (hb hby d21_32) e6 (by decide) (by decide) ?_
    intro T16 L16 v16 X16 hQ16
    obtain ⟨b16, k16, rfl, N16q, ge16_, gb16, E16, V16⟩ := hQ16
    have N16 := Fr.app N6 N16q
    obtain ⟨h16, eh16⟩ : ∃ z, z = T16.heap := ⟨_, rfl⟩
    rw [← eh16] at E16 V16
    have ge16 : n0 ≤ b16 := by rw [gb16]; exact Z6
    have sz_b16 : h0.size ≤ b16 := Nat.le_trans K6.1 (Nat.le_of_eq gb16.symm)
    have ne16_oa : oa ≠ b16 := Nat.ne_of_lt (Nat.lt_of_lt_of_le f10.lt (Nat.le_of_eq gb16.symm))
    have ne16_ta : ta ≠ b16 := Nat.ne_of_lt (Nat.lt_of_lt_of_le f8.lt (Nat.le_of_eq gb16.symm))
    have ne16_va : va ≠ b16 := Nat.ne_of_lt (Nat.lt_of_lt_of_le f15.lt (Nat.le_of_eq gb16.symm))
    have Z16 : n0 ≤ h16.size := Nat.le_trans Z6 E16.1
    have f17 := f8.ext E16
    have f18 := f9.ext E16
    have f19 := f7.ext E16
    have f20 := f10.ext E16
    have f21 := f11.ext E16
    have f22 := f12.ext E16
    have f23 := f13.ext E16
    have f24 := f14.ext E16
    have f25 := f15.ext E16
    have K16 := K6.ext E16
    have O16 := O6.ext E16
    show Own.Fin p e below (T16.setTop (mkF m 35 #[.val (.ref ta), .val (.ref oa), .val .null, .val (.ref va), .val (.int (Int32.ofNat n))] [(.ref b16), (.ref ta)])) _
    obtain ⟨T26, h26, X26, e26, W26, st26⟩ := putF X16 hx hZ hown (host := "") (Or.inl (hw _ (List.mem_of_getElem? (i := 182) rfl))) Via.refl eh16.symm f18 f17 (Or.inr ⟨(hw _ (List.mem_of_getElem? (i := 12) rfl)), rfl, hnm⟩) (hw _ (List.mem_of_getElem? (i := 10) rfl)) (ty := (.array .byte)) (by decide) rfl rfl (g := (mkF m 35 #[.val (.ref ta), .val (.ref oa), .val .null, .val (.ref va), .val (.int (Int32.ofNat n))] [(.ref b16), (.ref ta)])) rfl rfl (hb hby d21_35)
    refine Own.go st26 ?_
    have f27 := f18.same W26
    have N26 := Fr.snoc X26 N16 gt_
    have Z26 : n0 ≤ h26.size := by rw [W26.size]; exact Z16
    have f28 := f17.wr W26
    have f29 := f19.other W26 (Or.inr (slot_ne (Or.inr (hw _ (List.mem_of_getElem? (i := 13) rfl))) (Or.inr (hw _ (List.mem_of_getElem? (i := 12) rfl))) (by decide) (t := .byte) (t' := (.array .byte)) (by decide) (by decide)))
    have f30 := f20.wr W26
    have f31 := f21.other W26 (Or.inl (Ne.symm hto))
    have f32 := f22.other W26 (Or.inl (Ne.symm hto))
    have f33 := f23.other W26 (Or.inl (Ne.symm hto))
    have f34 := f24.other W26 (Or.inl (Ne.symm hto))
    have f35 := f25.other W26 (Ne.symm htv)
    have f36 := V16.other W26 (Ne.symm ne16_ta)
    have K26 := K16.wr W26 (Or.inl (List.mem_cons_self ..))
    have O26 := O16.wr W26 gt_
    show Own.Fin p e below (T26.setTop (mkF m 38 #[.val (.ref ta), .val (.ref oa), .val .null, .val (.ref va), .val (.int (Int32.ofNat n))] [])) _
    refine Own.go (fun t k => XS.goto X26.here hx rfl (pc0 := 38) (pc' := 97) rfl (hb hby d21_38) (by decide) (by decide) k) ?_
    show Own.Fin p e below (T26.setTop (mkF m 97 #[.val (.ref ta), .val (.ref oa), .val .null, .val (.ref va), .val (.int (Int32.ofNat n))] [])) _
    refine Own.retV X26 hx Bd.notSynchronized Bd.returns (hb hby d21_97) (by decide) (by decide) ?_
    exact ⟨rfl, N26, by rw [e26]; exact K26, by rw [e26]; exact ⟨f28, b16, k16, gA, f27, Or.inl ⟨f29, f36, hA⟩⟩⟩
  · skip
    show Own.Fin p e below (s₁.setTop (mkF m 0 #[.val (.ref ta), .val (.ref oa), .val .null, .unset, .unset] [])) _
    refine Own.go (fun t k => XS.aloadN X0.here hx rfl (hb hby d21_0) rfl rfl k) ?_
    show Own.Fin p e below (s₁.setTop (mkF m 1 #[.val (.ref ta), .val (.ref oa), .val .null, .unset, .unset] [(.ref ta)])) _
    obtain ⟨T37, X37, e37, st37⟩ := initO X0 hx hZ hown (hw _ (List.mem_of_getElem? (i := 148) rfl)) (hw _ (List.mem_of_getElem? (i := 25) rfl)) (hw _ (List.mem_of_getElem? (i := 26) rfl)) e0 (g := (mkF m 1 #[.val (.ref ta), .val (.ref oa), .val .null, .unset, .unset] [(.ref ta)])) rfl (by rw [hml]; rfl) rfl (hb hby d21_1) (by decide) (W := 0) (by show 2 * 0 + _ ≤ _; exact Nat.le_of_eq rfl) (by decide)
    refine Own.go st37 ?_
    show Own.Fin p e below (T37.setTop (mkF m 4 #[.val (.ref ta), .val (.ref oa), .val .null, .unset, .unset] [])) _
    refine Own.go (fun t k => XS.aloadN X37.here hx rfl (hb hby d21_4) rfl rfl k) ?_
    show Own.Fin p e below (T37.setTop (mkF m 5 #[.val (.ref ta), .val (.ref oa), .val .null, .unset, .unset] [(.ref oa)])) _
    refine Own.cV X37 hx hZ hown (hw _ (List.mem_of_getElem? (i := 149) rfl)) (hw _ (List.mem_of_getElem? (i := 150) rfl)) (notFace_of_selects (args := #[]) (mvT hZ (hw _ (List.mem_of_getElem? (i := 152) rfl)))) (hw _ (List.mem_of_getElem? (i := 152) rfl)) (hw _ (List.mem_of_getElem? (i := 151) rfl)) (hw _ (List.mem_of_getElem? (i := 72) rfl)) (hw _ (List.mem_of_getElem? (i := 153) rfl)) (by decide) (rm22 l Z a0 hw [] oa va h0 n0 Z0 F_value) (by decide) (W := 0) (by decide) (argsL := []) (rest := []) E0 (by rw [hml]; rfl) (lenOf pd_22 rfl) rfl (Nat.le_of_eq rfl) (hb hby d21_5) e37 (by decide) (by decide) ?_
    intro T38 L38 v38 X38 hQ38
    obtain ⟨rfl, N38q, e38⟩ := hQ38
    have N38 := Fr.app N0 N38q
    show Own.Fin p e below (T38.setTop (mkF m 8 #[.val (.ref ta), .val (.ref oa), .val .null, .unset, .unset] [(.ref va)])) _
    refine Own.go (fun t k => XS.astoreN X38.here hx rfl (hb hby d21_8) rfl rfl (l' := #[.val (.ref ta), .val (.ref oa), .val .null, .val (.ref va), .unset]) rfl k) ?_
    show Own.Fin p e below (T38.setTop (mkF m 9 #[.val (.ref ta), .val (.ref oa), .val .null, .val (.ref va), .unset] [])) _
    refine Own.go (fun t k => XS.aloadN X38.here hx rfl (hb hby d21_9) rfl rfl k) ?_
    show Own.Fin p e below (T38.setTop (mkF m 10 #[.val (.ref ta), .val (.ref oa), .val .null, .val (.ref va), .unset] [(.ref oa)])) _
    refine Own.cV X38 hx hZ hown (hw _ (List.mem_of_getElem? (i := 154) rfl)) (hw _ (List.mem_of_getElem? (i := 155) rfl)) (own_nf (a := #[]) (mvT hZ (hw _ (List.mem_of_getElem? (i := 152) rfl))) rfl) (hw _ (List.mem_of_getElem? (i := 157) rfl)) (hw _ (List.mem_of_getElem? (i := 158) rfl)) (hw _ (List.mem_of_getElem? (i := 64) rfl)) (hw _ (List.mem_of_getElem? (i := 159) rfl)) (by decide) (rm23 l Z a0 hw [] oa (Int32.ofNat n) h0 n0 Z0 E0 F_count) (by decide) (W := 0) (by decide) (argsL := []) (rest := []) E0 (by rw [hml]; rfl) (lenOf pd_11 rfl) rfl (Nat.le_of_eq rfl) (hb hby d21_10) e38 (by decide) (by decide) ?_
    intro T39 L39 v39 X39 hQ39
    obtain ⟨rfl, N39q, e39⟩ := hQ39
    have N39 := Fr.app N38 N39q
    show Own.Fin p e below (T39.setTop (mkF m 13 #[.val (.ref ta), .val (.ref oa), .val .null, .val (.ref va), .unset] [(.int (Int32.ofNat n))])) _
    refine Own.go (fun t k => XS.istore X39.here hx rfl (hb hby d21_13) rfl (l' := #[.val (.ref ta), .val (.ref oa), .val .null, .val (.ref va), .val (.int (Int32.ofNat n))]) rfl k) ?_
    show Own.Fin p e below (T39.setTop (mkF m 15 #[.val (.ref ta), .val (.ref oa), .val .null, .val (.ref va), .val (.int (Int32.ofNat n))] [])) _
    refine Own.go (fun t k => XS.aloadN X39.here hx rfl (hb hby d21_15) rfl rfl k) ?_
    show Own.Fin p e below (T39.setTop (mkF m 16 #[.val (.ref ta), .val (.ref oa), .val .null, .val (.ref va), .val (.int (Int32.ofNat n))] [(.ref oa)])) _
    refine Own.cV X39 hx hZ hown (hw _ (List.mem_of_getElem? (i := 162) rfl)) (hw _ (List.mem_of_getElem? (i := 122) rfl)) (notFace_of_selects (args := #[]) (mvT hZ (hw _ (List.mem_of_getElem? (i := 124) rfl)))) (hw _ (List.mem_of_getElem? (i := 124) rfl)) (hw _ (List.mem_of_getElem? (i := 123) rfl)) (hw _ (List.mem_of_getElem? (i := 72) rfl)) (hw _ (List.mem_of_getElem? (i := 125) rfl)) (by decide) (rm16 l Z a0 hw [] oa cs (1 : Int32) h0 n0 Z0 O0 SC hcs F_coder) (by decide) (W := 0) (by decide) (argsL := []) (rest := []) E0 (by rw [hml]; rfl) (lenOf pd_12 rfl) rfl (Nat.le_of_eq rfl) (hb hby d21_16) e39 (by decide) (by decide) ?_
    intro T40 L40 v40 X40 hQ40
    obtain ⟨rfl, N40q, e40⟩ := hQ40
    have N40 := Fr.app N39 N40q
    show Own.Fin p e below (T40.setTop (mkF m 19 #[.val (.ref ta), .val (.ref oa), .val .null, .val (.ref va), .val (.int (Int32.ofNat n))] [(.int (F_isl (1 : Int32)))])) _
    have hc19_40 : (F_isl (1 : Int32)) = (0 : Int32) := by decide
    refine Own.go (fun t k => XS.ifYes X40.here hx rfl (pc0 := 19) (pc' := 41) rfl (hb hby d21_19) rfl ((if0 _ _).trans (teq hc19_40).1) (by decide) (by decide) k) ?_
    show Own.Fin p e below (T40.setTop (mkF m 41 #[.val (.ref ta), .val (.ref oa), .val .null, .val (.ref va), .val (.int (Int32.ofNat n))] [])) _
    obtain ⟨T42, X42, e42, st42⟩ := getS2 X40 hx hZ hown (host := "") (Or.inl (hw _ (List.mem_of_getElem? (i := 193) rfl))) Via.refl e40 (SC.ext O0.2) (g := (mkF m 41 #[.val (.ref ta), .val (.ref oa), .val .null, .val (.ref va), .val (.int (Int32.ofNat n))] [])) rfl (hb hby d21_41)
    refine Own.go st42 ?_
    show Own.Fin p e below (T42.setTop (mkF m 44 #[.val (.ref ta), .val (.ref oa), .val .null, .val (.ref va), .val (.int (Int32.ofNat n))] [(.int cs)])) _
    have hc44_42 : ¬ (cs = (0 : Int32)) := hcs
    refine Own.go (fun t k => XS.ifNo X42.here hx rfl (hb hby d21_44) rfl ((if0 _ _).trans (feq hc44_42).1) k) ?_
    show Own.Fin p e below (T42.setTop (mkF m 47 #[.val (.ref ta), .val (.ref oa), .val .null, .val (.ref va), .val (.int (Int32.ofNat n))] [])) _
    refine Own.go (fun t k => XS.aloadN X42.here hx rfl (hb hby d21_47) rfl rfl k) ?_
    show Own.Fin p e below (T42.setTop (mkF m 48 #[.val (.ref ta), .val (.ref oa), .val .null, .val (.ref va), .val (.int (Int32.ofNat n))] [(.ref oa)])) _
    obtain ⟨T44, X44, e44, st44⟩ := getF X42 hx hZ hown (host := "") (Or.inl (hw _ (List.mem_of_getElem? (i := 268) rfl))) Via.refl e42 F_maybeLatin1 (g := (mkF m 48 #[.val (.ref ta), .val (.ref oa), .val .null, .val (.ref va), .val (.int (Int32.ofNat n))] [(.ref oa)])) rfl rfl (hb hby d21_48)
    refine Own.go st44 ?_
    show Own.Fin p e below (T44.setTop (mkF m 51 #[.val (.ref ta), .val (.ref oa), .val .null, .val (.ref va), .val (.int (Int32.ofNat n))] [(.int (0 : Int32))])) _
    have hc51_44 : (0 : Int32) = (0 : Int32) := by decide
    refine Own.go (fun t k => XS.ifYes X44.here hx rfl (pc0 := 51) (pc' := 79) rfl (hb hby d21_51) rfl ((if0 _ _).trans (teq hc51_44).1) (by decide) (by decide) k) ?_
    show Own.Fin p e below (T44.setTop (mkF m 79 #[.val (.ref ta), .val (.ref oa), .val .null, .val (.ref va), .val (.int (Int32.ofNat n))] [])) _
    refine Own.go (fun t k => XS.aloadN X44.here hx rfl (hb hby d21_79) rfl rfl k) ?_
    show Own.Fin p e below (T44.setTop (mkF m 80 #[.val (.ref ta), .val (.ref oa), .val .null, .val (.ref va), .val (.int (Int32.ofNat n))] [(.ref ta)])) _
    refine Own.go (fun t k => XS.iconst X44.here hx rfl (hb hby d21_80) k) ?_
    show Own.Fin p e below (T44.setTop (mkF m 81 #[.val (.ref ta), .val (.ref oa), .val .null, .val (.ref va), .val (.int (Int32.ofNat n))] [(.int (1 : Int32)), (.ref ta)])) _
    obtain ⟨T46, h46, X46, e46, W46, st46⟩ := putFN X44 hx hZ hown (hw _ (List.mem_of_getElem? (i := 163) rfl)) Via.refl e44 Ft_coder Et (Or.inr ⟨(hw _ (List.mem_of_getElem? (i := 13) rfl)), rfl, hnm⟩) (hw _ (List.mem_of_getElem? (i := 10) rfl)) (ty := .byte) (v' := (.int (nar .byte (1 : Int32)))) (by decide) rfl (fits_nar_byte _) (g := (mkF m 81 #[.val (.ref ta), .val (.ref oa), .val .null, .val (.ref va), .val (.int (Int32.ofNat n))] [(.int (1 : Int32)), (.ref ta)])) rfl rfl (hb hby d21_81)
    refine Own.go st46 ?_
    have f47 := Ft_coder.same W46
    have N46 := Fr.snoc X46 N40 gt_
    have Z46 : n0 ≤ h46.size := by rw [W46.size]; exact Z0
    have f48 := Et.wr W46
    have f49 := Ft_value.other W46 (Or.inr (slot_ne (Or.inr (hw _ (List.mem_of_getElem? (i := 12) rfl))) (Or.inr (hw _ (List.mem_of_getElem? (i := 13) rfl))) (by decide) (t := (.array .byte)) (t' := .byte) (by decide) (by decide)))
    have f50 := E0.wr W46
    have f51 := F_value.other W46 (Or.inl (Ne.symm hto))
    have f52 := F_coder.other W46 (Or.inl (Ne.symm hto))
    have f53 := F_count.other W46 (Or.inl (Ne.symm hto))
    have f54 := F_maybeLatin1.other W46 (Or.inl (Ne.symm hto))
    have f55 := VA.other W46 (Ne.symm htv)
    have K46 := (Keep.refl h0 [ta]).wr W46 (Or.inl (List.mem_cons_self ..))
    have O46 := O0.wr W46 gt_
    show Own.Fin p e below (T46.setTop (mkF m 84 #[.val (.ref ta), .val (.ref oa), .val .null, .val (.ref va), .val (.int (Int32.ofNat n))] [])) _
    refine Own.go (fun t k => XS.aloadN X46.here hx rfl (hb hby d21_84) rfl rfl k) ?_
    show Own.Fin p e below (T46.setTop (mkF m 85 #[.val (.ref ta), .val (.ref oa), .val .null, .val (.ref va), .val (.int (Int32.ofNat n))] [(.ref ta)])) _
    refine Own.go (fun t k => XS.aloadN X46.here hx rfl (hb hby d21_85) rfl rfl k) ?_
    show Own.Fin p e below (T46.setTop (mkF m 86 #[.val (.ref ta), .val (.ref oa), .val .null, .val (.ref va), .val (.int (Int32.ofNat n))] [(.ref va), (.ref ta)])) _
    refine Own.go (fun t k => XS.iconst X46.here hx rfl (hb hby d21_86) k) ?_
    show Own.Fin p e below (T46.setTop (mkF m 87 #[.val (.ref ta), .val (.ref oa), .val .null, .val (.ref va), .val (.int (Int32.ofNat n))] [(.int (0 : Int32)), (.ref va), (.ref ta)])) _
    refine Own.go (fun t k => XS.iload X46.here hx rfl (hb hby d21_87) rfl k) ?_
    show Own.Fin p e below (T46.setTop (mkF m 89 #[.val (.ref ta), .val (.ref oa), .val .null, .val (.ref va), .val (.int (Int32.ofNat n))] [(.int (Int32.ofNat n)), (.int (0 : Int32)), (.ref va), (.ref ta)])) _
    refine Own.go (fun t k => XS.iconst X46.here hx rfl (hb hby d21_89) k) ?_
    show Own.Fin p e below (T46.setTop (mkF m 90 #[.val (.ref ta), .val (.ref oa), .val .null, .val (.ref va), .val (.int (Int32.ofNat n))] [(.int (1 : Int32)), (.int (Int32.ofNat n)), (.int (0 : Int32)), (.ref va), (.ref ta)])) _
    refine Own.go (fun t k => XS.ishl X46.here hx rfl (hb hby d21_90) rfl k) ?_
    show Own.Fin p e below (T46.setTop (mkF m 91 #[.val (.ref ta), .val (.ref oa), .val .null, .val (.ref va), .val (.int (Int32.ofNat n))] [(.int (((Int32.ofNat n) <<< ((1 : Int32) &&& 31)))), (.int (0 : Int32)), (.ref va), (.ref ta)])) _
    rw [show (((Int32.ofNat n) <<< ((1 : Int32) &&& 31))) = (Int32.ofNat (2 * n)) from (own_shl n (by omega))]
    show Own.Fin p e below (T46.setTop (mkF m 91 #[.val (.ref ta), .val (.ref oa), .val .null, .val (.ref va), .val (.int (Int32.ofNat n))] [(.int (Int32.ofNat (2 * n))), (.int (0 : Int32)), (.ref va), (.ref ta)])) _
    refine Own.cS X46 hx hZ hown (hw _ (List.mem_of_getElem? (i := 164) rfl)) (hw _ (List.mem_of_getElem? (i := 165) rfl)) (hw _ (List.mem_of_getElem? (i := 166) rfl)) (hw _ (List.mem_of_getElem? (i := 167) rfl)) (by decide) (rm25 l Z a0 hw [] va (0 : Int32) (Int32.ofNat (2 * n)) kA (32 : Int32) 32 (2 * n) gA h46 n0 Z46 f55 rfl (by decide) (by omega) rfl rfl) (by decide) (W := 1) (by decide) (argsL := [(.ref va), (.int (0 : Int32)), (.int (Int32.ofNat (2 * n)))]) (rest := [(.ref ta)]) (by rw [hml]; rfl) (lenOf pd_21 rfl) rfl (Nat.le_of_eq rfl) (hb hby d21_91) e46 (by decide) (by decide) ?_
    intro T56 L56 v56 X56 hQ56
    obtain ⟨b56, k56, rfl, N56q, ge56_, gb56, E56, V56⟩ := hQ56
    have N56 := Fr.app N46 N56q
    obtain ⟨h56, eh56⟩ : ∃ z, z = T56.heap := ⟨_, rfl⟩
    rw [← eh56] at E56 V56
    have ge56 : n0 ≤ b56 := by rw [gb56]; exact Z46
    have sz_b56 : h0.size ≤ b56 := Nat.le_trans K46.1 (Nat.le_of_eq gb56.symm)
    have ne56_oa : oa ≠ b56 := Nat.ne_of_lt (Nat.lt_of_lt_of_le f50.lt (Nat.le_of_eq gb56.symm))
    have ne56_ta : ta ≠ b56 := Nat.ne_of_lt (Nat.lt_of_lt_of_le f48.lt (Nat.le_of_eq gb56.symm))
    have ne56_va : va ≠ b56 := Nat.ne_of_lt (Nat.lt_of_lt_of_le f55.lt (Nat.le_of_eq gb56.symm))
    have Z56 : n0 ≤ h56.size := Nat.le_trans Z46 E56.1
    have f57 := f48.ext E56
    have f58 := f49.ext E56
    have f59 := f47.ext E56
    have f60 := f50.ext E56
    have f61 := f51.ext E56
    have f62 := f52.ext E56
    have f63 := f53.ext E56
    have f64 := f54.ext E56
    have f65 := f55.ext E56
    have K56 := K46.ext E56
    have O56 := O46.ext E56
    show Own.Fin p e below (T56.setTop (mkF m 94 #[.val (.ref ta), .val (.ref oa), .val .null, .val (.ref va), .val (.int (Int32.ofNat n))] [(.ref b56), (.ref ta)])) _
    obtain ⟨T66, h66, X66, e66, W66, st66⟩ := putF X56 hx hZ hown (host := "") (Or.inl (hw _ (List.mem_of_getElem? (i := 182) rfl))) Via.refl eh56.symm f58 f57 (Or.inr ⟨(hw _ (List.mem_of_getElem? (i := 12) rfl)), rfl, hnm⟩) (hw _ (List.mem_of_getElem? (i := 10) rfl)) (ty := (.array .byte)) (by decide) rfl rfl (g := (mkF m 94 #[.val (.ref ta), .val (.ref oa), .val .null, .val (.ref va), .val (.int (Int32.ofNat n))] [(.ref b56), (.ref ta)])) rfl rfl (hb hby d21_94)
    refine Own.go st66 ?_
    have f67 := f58.same W66
    have N66 := Fr.snoc X66 N56 gt_
    have Z66 : n0 ≤ h66.size := by rw [W66.size]; exact Z56
    have f68 := f57.wr W66
    have f69 := f59.other W66 (Or.inr (slot_ne (Or.inr (hw _ (List.mem_of_getElem? (i := 13) rfl))) (Or.inr (hw _ (List.mem_of_getElem? (i := 12) rfl))) (by decide) (t := .byte) (t' := (.array .byte)) (by decide) (by decide)))
    have f70 := f60.wr W66
    have f71 := f61.other W66 (Or.inl (Ne.symm hto))
    have f72 := f62.other W66 (Or.inl (Ne.symm hto))
    have f73 := f63.other W66 (Or.inl (Ne.symm hto))
    have f74 := f64.other W66 (Or.inl (Ne.symm hto))
    have f75 := f65.other W66 (Ne.symm htv)
    have f76 := V56.other W66 (Ne.symm ne56_ta)
    have K66 := K56.wr W66 (Or.inl (List.mem_cons_self ..))
    have O66 := O56.wr W66 gt_
    show Own.Fin p e below (T66.setTop (mkF m 97 #[.val (.ref ta), .val (.ref oa), .val .null, .val (.ref va), .val (.int (Int32.ofNat n))] [])) _
    refine Own.retV X66 hx Bd.notSynchronized Bd.returns (hb hby d21_97) (by decide) (by decide) ?_
    exact ⟨rfl, N66, by rw [e66]; exact K66, by rw [e66]; exact ⟨f68, b56, k56, gA, f67, Or.inr ⟨f69, f76, hU⟩⟩⟩
theorem SBR.lt {Z : State} {h : Heap} {oa va : Addr} {ch : Nat → Nat} {n : Nat} (R : SBR Z h oa va ch n) : oa < h.size ∧ va < h.size := by
  obtain ⟨E0, -, -, -, ⟨k, g, -, V, -⟩ | ⟨k, g, -, V, -⟩⟩ := R
  · exact ⟨E0.lt, V.lt⟩
  · exact ⟨E0.lt, V.lt⟩
theorem SBR.ext {Z : State} {h h' : Heap} {oa va : Addr} {ch : Nat → Nat} {n : Nat} (R : SBR Z h oa va ch n) (E : Ext h h') : SBR Z h' oa va ch n := by
  obtain ⟨E0, F1, F2, F3, ⟨k, g, F4, V, q⟩ | ⟨k, g, F4, V, q⟩⟩ := R
  · exact ⟨E0.ext E, F1.ext E, F2.ext E, F3.ext E, Or.inl ⟨k, g, F4.ext E, V.ext E, q⟩⟩
  · exact ⟨E0.ext E, F1.ext E, F2.ext E, F3.ext E, Or.inr ⟨k, g, F4.ext E, V.ext E, q⟩⟩
theorem SBR.keep {Z : State} {h h' : Heap} {ws : List Addr} {oa va : Addr} {ch : Nat → Nat} {n : Nat} (R : SBR Z h oa va ch n) (K : Keep h h' ws) (h1 : oa ∉ ws) (h2 : va ∉ ws) : SBR Z h' oa va ch n := by
  obtain ⟨E0, F1, F2, F3, ⟨k, g, F4, V, q⟩ | ⟨k, g, F4, V, q⟩⟩ := R
  · exact ⟨E0.keep K, F1.keep K h1, F2.keep K h1, F3.keep K h1, Or.inl ⟨k, g, F4.keep K h1, V.keep K h2, q⟩⟩
  · exact ⟨E0.keep K, F1.keep K h1, F2.keep K h1, F3.keep K h1, Or.inr ⟨k, g, F4.keep K h1, V.keep K h2, q⟩⟩
theorem SBR.wr {Z : State} {h h' : Heap} {a : Addr} {sl : Nat} {v : Value} {oa va : Addr} {ch : Nat → Nat} {n : Nat} (R : SBR Z h oa va ch n) (W : Wr h h' a sl v) (h1 : oa ≠ a) (h2 : va ≠ a) : SBR Z h' oa va ch n := by
  obtain ⟨E0, F1, F2, F3, ⟨k, g, F4, V, q⟩ | ⟨k, g, F4, V, q⟩⟩ := R
  · exact ⟨E0.wr W, F1.other W (Or.inl h1), F2.other W (Or.inl h1), F3.other W (Or.inl h1), Or.inl ⟨k, g, F4.other W (Or.inl h1), V.other W h2, q⟩⟩
  · exact ⟨E0.wr W, F1.other W (Or.inl h1), F2.other W (Or.inl h1), F3.other W (Or.inl h1), Or.inr ⟨k, g, F4.other W (Or.inl h1), V.other W h2, q⟩⟩
theorem own_ne {o va va' n : Nat} (h : va' = va ∨ n ≤ va') (h1 : o ≠ va) (h2 : o < n) : o ≠ va' := by
  rcases h with rfl | h
  · exact h1
  · omega
theorem d20_0 : decode jdk_42_method_53_code 0 = .ok (.aload_n 0, 1) := by decide +kernel
theorem d20_1 : decode jdk_42_method_53_code 1 = .ok (.aload_n 1, 1) := by decide +kernel
theorem d20_2 : decode jdk_42_method_53_code 2 = .ok (.aconst_null, 1) := by decide +kernel
theorem d20_3 : decode jdk_42_method_53_code 3 = .ok (.invokespecial 489, 3) := by decide +kernel
theorem d20_6 : decode jdk_42_method_53_code 6 = .ok (.return_, 1) := by decide +kernel
theorem pd_23 : parseMethodDescriptor "(Ljava/lang/AbstractStringBuilder;Ljava/lang/Void;)V" = some ⟨[(.object "java/lang/AbstractStringBuilder"), (.object "java/lang/Void")], none⟩ := by decide +kernel
theorem pn_20 : plainName "java/lang/String" = true := by first | (simp [plainName, overriddenIn]; done) | decide +kernel
theorem ef_20 (m : MethodId) (ta : Addr) (oa : Addr)  : entryFrame m #[(.ref ta), (.ref oa)] 2 = mkF m 0 #[.val (.ref ta), .val (.ref oa)] [] := by first | (simp [entryFrame, mkF, argsToLocals, Value.category]; done) | rfl
def Q20 (Z : State) (ta : Addr) (oa : Addr) (cs : Int32) (va : Addr) (n : Nat) (ch : Nat → Nat) (h0 : Heap) (n0 : Nat) : Option Value → Heap → List Loc → Prop := fun v h L => v = none ∧ Fr n0 L ∧ Keep h0 h [ta] ∧ STRR Z h ta ch n
set_option maxRecDepth 65536 in
set_option maxHeartbeats 40000000 in
theorem rm20 (l : Launch) (Z : State) (a0 : Array Value) (hw : ∀ d ∈ tables_1, d.before a0 Z = true) (ws : List Jvm.Cond) (ta : Addr) (oa : Addr) (cs : Int32) (va : Addr) (n : Nat) (ch : Nat → Nat) (h0 : Heap) (n0 : Nat) (Z0 : n0 ≤ h0.size) (O0 : Old Z n0 h0) (SC : Sta Z Z.heap "java/lang/String" "COMPACT_STRINGS" "Z" (.int cs)) (hcs : ¬ cs = (0 : Int32)) (Et : Exa Z h0 ta "java/lang/String") (Ft_value : Fld Z h0 ta "java/lang/String" "value" "[B" .null) (Ft_coder : Fld Z h0 ta "java/lang/String" "coder" "B" (.int (0 : Int32))) (gt_ : n0 ≤ ta) (hto : ta ≠ oa) (htv : ta ≠ va) (hR : SBR Z h0 oa va ch n) (hov : oa ≠ va) (hn : n ≤ 8) :
    MetFree l (⟨"java/lang/String", "<init>", "(Ljava/lang/StringBuilder;)V"⟩ : MethodName) (head1 (Jvm.Cond.code (⟨"java/lang/String", "<init>", "(Ljava/lang/StringBuilder;)V"⟩ : MethodName) jdk_42_method_53_code 2 none :: ws) ({ frames := 4, cells := 1, slots := 32, locals := 110 } : Room)) (fun a U => a = #[(.ref ta), (.ref oa)] ∧ Z.Warmed39 U.vm ∧ U.heap = h0) (fun _ _ _ _ _ => True) (fun _ U o U' => ∃ v L, o = .returned v ∧ (Q20 Z ta oa cs va n ch h0 n0) v U'.heap L ∧ FrameEnd U o U' L ({ frames := 4, cells := 1, slots := 32, locals := 110 } : Room).cells ({ frames := 4, cells := 1, slots := 32, locals := 110 } : Room).slots) := by
  refine MetFree.of_bodySF (plainFor_of_name pn_20) hisR ?_
  intro p e s m args below meth c s₁ Bd hml0 hP hK
  obtain ⟨rfl, hZ, hh⟩ := hP
  have hx := Bd.exec
  have hby := Bd.bytes
  have hml : c.maxLocals = 2 := hml0
  have hown : s.vm.findClass "java/lang/String" = some m.cls := findClass_of_methodNamed Bd.named
  have hnm := (name_of_methodNamed Bd.named Bd.method).1
  have X0 : Stand p l e ({ frames := 4, cells := 1, slots := 32, locals := 110 } : Room) s m #[(.ref ta), (.ref oa)] below meth c s₁ [] 0 0 := Stand.of_body Bd
  have e0 : s₁.heap = h0 := by rw [← hh, Bd.state]; rfl
  have N0 := Fr.nil n0
  show Own.Fin p e below _ (Own.Post s (Q20 Z ta oa cs va n ch h0 n0) ({ frames := 4, cells := 1, slots := 32, locals := 110 } : Room).cells ({ frames := 4, cells := 1, slots := 32, locals := 110 } : Room).slots)
  refine Own.start (ef_20 m ta oa) ?_
  show Own.Fin p e below (s₁.setTop (mkF m 0 #[.val (.ref ta), .val (.ref oa)] [])) _
  refine Own.go (fun t k => XS.aloadN X0.here hx rfl (hb hby d20_0) rfl rfl k) ?_
  show Own.Fin p e below (s₁.setTop (mkF m 1 #[.val (.ref ta), .val (.ref oa)] [(.ref ta)])) _
  refine Own.go (fun t k => XS.aloadN X0.here hx rfl (hb hby d20_1) rfl rfl k) ?_
  show Own.Fin p e below (s₁.setTop (mkF m 2 #[.val (.ref ta), .val (.ref oa)] [(.ref oa), (.ref ta)])) _
  refine Own.go (fun t k => XS.aconstNull X0.here hx rfl (hb hby d20_2) k) ?_
  show Own.Fin p e below (s₁.setTop (mkF m 3 #[.val (.ref ta), .val (.ref oa)] [.null, (.ref oa), (.ref ta)])) _
  refine Own.cI X0 hx hZ rfl hown (hw _ (List.mem_of_getElem? (i := 145) rfl)) (hw _ (List.mem_of_getElem? (i := 146) rfl)) (hw _ (List.mem_of_getElem? (i := 9) rfl)) (hw _ (List.mem_of_getElem? (i := 147) rfl)) (by decide) (rm21 l Z a0 hw [] ta oa cs va n ch h0 n0 Z0 O0 SC hcs Et Ft_value Ft_coder gt_ hto htv hR hov hn) (by decide) (W := 0) (by decide) (argsL := [(.ref oa), .null]) (rest := []) (by rw [hml]; rfl) (lenOf pd_23 rfl) rfl (Nat.le_of_eq rfl) (hb hby d20_3) e0 (by decide) (by decide) ?_
  intro T1 L1 v1 X1 hQ1
  obtain ⟨rfl, N1q, K1q, hT1⟩ := hQ1
  have N1 := Fr.app N0 N1q
  show Own.Fin p e below (T1.setTop (mkF m 6 #[.val (.ref ta), .val (.ref oa)] [])) _
  refine Own.retV X1 hx Bd.notSynchronized Bd.returns (hb hby d20_6) (by decide) (by decide) ?_
  exact ⟨rfl, N1, K1q, hT1⟩
theorem d19_0 : decode jdk_67_method_42_code 0 = .ok (.new 18, 3) := by decide +kernel
theorem d19_3 : decode jdk_67_method_42_code 3 = .ok (.dup, 1) := by decide +kernel
theorem d19_4 : decode jdk_67_method_42_code 4 = .ok (.aload_n 0, 1) := by decide +kernel
theorem d19_5 : decode jdk_67_method_42_code 5 = .ok (.invokespecial 137, 3) := by decide +kernel
theorem d19_8 : decode jdk_67_method_42_code 8 = .ok (.areturn, 1) := by decide +kernel
theorem pd_24 : parseMethodDescriptor "(Ljava/lang/StringBuilder;)V" = some ⟨[(.object "java/lang/StringBuilder")], none⟩ := by decide +kernel
theorem pn_19 : plainName "java/lang/StringBuilder" = true := by first | (simp [plainName, overriddenIn]; done) | decide +kernel
theorem ef_19 (m : MethodId) (oa : Addr)  : entryFrame m #[(.ref oa)] 1 = mkF m 0 #[.val (.ref oa)] [] := by first | (simp [entryFrame, mkF, argsToLocals, Value.category]; done) | rfl
def Q19 (Z : State) (oa : Addr) (cs : Int32) (va : Addr) (n : Nat) (ch : Nat → Nat) (h0 : Heap) (n0 : Nat) : Option Value → Heap → List Loc → Prop := fun v h L => ∃ ta, v = some (.ref ta) ∧ Fr n0 L ∧ Keep h0 h [] ∧ STRR Z h ta ch n
set_option maxRecDepth 65536 in
set_option maxHeartbeats 40000000 in
theorem rm19 (l : Launch) (Z : State) (a0 : Array Value) (hw : ∀ d ∈ tables_1, d.before a0 Z = true) (ws : List Jvm.Cond) (oa : Addr) (cs : Int32) (va : Addr) (n : Nat) (ch : Nat → Nat) (h0 : Heap) (n0 : Nat) (Z0 : n0 ≤ h0.size) (O0 : Old Z n0 h0) (SC : Sta Z Z.heap "java/lang/String" "COMPACT_STRINGS" "Z" (.int cs)) (hcs : ¬ cs = (0 : Int32)) (hR : SBR Z h0 oa va ch n) (hov : oa ≠ va) (hn : n ≤ 8) :
    MetFree l (⟨"java/lang/StringBuilder", "toString", "()Ljava/lang/String;"⟩ : MethodName) (head1 (Jvm.Cond.code (⟨"java/lang/StringBuilder", "toString", "()Ljava/lang/String;"⟩ : MethodName) jdk_67_method_42_code 1 (some (.object "java/lang/String")) :: ws) ({ frames := 5, cells := 2, slots := 36, locals := 130 } : Room)) (fun a U => a = #[(.ref oa)] ∧ Z.Warmed39 U.vm ∧ U.heap = h0) (fun _ _ _ _ _ => True) (fun _ U o U' => ∃ v L, o = .returned v ∧ (Q19 Z oa cs va n ch h0 n0) v U'.heap L ∧ FrameEnd U o U' L ({ frames := 5, cells := 2, slots := 36, locals := 130 } : Room).cells ({ frames := 5, cells := 2, slots := 36, locals := 130 } : Room).slots) := by
  refine MetFree.of_bodySF (plainFor_of_name pn_19) hisR ?_
  intro p e s m args below meth c s₁ Bd hml0 hP hK
  obtain ⟨rfl, hZ, hh⟩ := hP
  have hx := Bd.exec
  have hby := Bd.bytes
  have hml : c.maxLocals = 1 := hml0
  have hown : s.vm.findClass "java/lang/StringBuilder" = some m.cls := findClass_of_methodNamed Bd.named
  have hnm := (name_of_methodNamed Bd.named Bd.method).1
  have X0 : Stand p l e ({ frames := 5, cells := 2, slots := 36, locals := 130 } : Room) s m #[(.ref oa)] below meth c s₁ [] 0 0 := Stand.of_body Bd
  have e0 : s₁.heap = h0 := by rw [← hh, Bd.state]; rfl
  have N0 := Fr.nil n0
  show Own.Fin p e below _ (Own.Post s (Q19 Z oa cs va n ch h0 n0) ({ frames := 5, cells := 2, slots := 36, locals := 130 } : Room).cells ({ frames := 5, cells := 2, slots := 36, locals := 130 } : Room).slots)
  refine Own.start (ef_19 m oa) ?_
  show Own.Fin p e below (s₁.setTop (mkF m 0 #[.val (.ref oa)] [])) _
  obtain ⟨T1, h1, X1, e1, E1, A1, D1, -, st1⟩ := newO X0 hx hZ hown (hw _ (List.mem_of_getElem? (i := 140) rfl)) (hw _ (List.mem_of_getElem? (i := 10) rfl)) (hw _ (List.mem_of_getElem? (i := 9) rfl)) e0 (g := (mkF m 0 #[.val (.ref oa)] [])) rfl (hb hby d19_0) (by decide) (by decide)
  obtain ⟨b1, gb1⟩ : ∃ z, z = h0.size := ⟨_, rfl⟩
  rw [← gb1] at A1 D1 st1
  refine Own.go st1 ?_
  have ge1 : n0 ≤ b1 := by rw [gb1]; exact Z0
  have sz_b1 : h0.size ≤ b1 := Nat.le_trans (Keep.refl h0 []).1 (Nat.le_of_eq gb1.symm)
  have ne1_oa : oa ≠ b1 := Nat.ne_of_lt (Nat.lt_of_lt_of_le hR.lt.1 (Nat.le_of_eq gb1.symm))
  have ne1_va : va ≠ b1 := Nat.ne_of_lt (Nat.lt_of_lt_of_le hR.lt.2 (Nat.le_of_eq gb1.symm))
  have Z1 : n0 ≤ h1.size := Nat.le_trans Z0 E1.1
  have f2 := hR.ext E1
  have K1 := (Keep.refl h0 []).ext E1
  have O1 := O0.ext E1
  have fl3 : Fld Z h1 b1 "java/lang/String" "value" "[B" .null := D1 (Or.inr (hw _ (List.mem_of_getElem? (i := 12) rfl))) (ty := (.array .byte)) (by decide)
  have fl4 : Fld Z h1 b1 "java/lang/String" "coder" "B" (.int (0 : Int32)) := D1 (Or.inr (hw _ (List.mem_of_getElem? (i := 13) rfl))) (ty := .byte) (by decide)
  show Own.Fin p e below (T1.setTop (mkF m 3 #[.val (.ref oa)] [(.ref b1)])) _
  refine Own.go (fun t k => XS.dup X1.here hx rfl (hb hby d19_3) rfl rfl k) ?_
  show Own.Fin p e below (T1.setTop (mkF m 4 #[.val (.ref oa)] [(.ref b1), (.ref b1)])) _
  refine Own.go (fun t k => XS.aloadN X1.here hx rfl (hb hby d19_4) rfl rfl k) ?_
  show Own.Fin p e below (T1.setTop (mkF m 5 #[.val (.ref oa)] [(.ref oa), (.ref b1), (.ref b1)])) _
  refine Own.cI X1 hx hZ rfl hown (hw _ (List.mem_of_getElem? (i := 141) rfl)) (hw _ (List.mem_of_getElem? (i := 142) rfl)) (hw _ (List.mem_of_getElem? (i := 9) rfl)) (hw _ (List.mem_of_getElem? (i := 144) rfl)) (by decide) (rm20 l Z a0 hw [] b1 oa cs va n ch h1 n0 Z1 O1 SC hcs A1 fl3 fl4 ge1 (Ne.symm ne1_oa) (Ne.symm ne1_va) f2 hov hn) (by decide) (W := 1) (by decide) (argsL := [(.ref oa)]) (rest := [(.ref b1)]) (by rw [hml]; rfl) (lenOf pd_24 rfl) rfl (Nat.le_of_eq rfl) (hb hby d19_5) e1 (by decide) (by decide) ?_
  intro T5 L5 v5 X5 hQ5
  obtain ⟨rfl, N5q, K5q, hT5⟩ := hQ5
  have N5 := Fr.app N0 N5q
  have f6 := A1.keep K5q
  have Z5 : n0 ≤ T5.heap.size := Nat.le_trans Z1 K5q.1
  have KK5 := K1.trans K5q (allS (Or.inr sz_b1) all0)
  have O5 := O1.keep K5q (allS ge1 all0)
  show Own.Fin p e below (T5.setTop (mkF m 8 #[.val (.ref oa)] [(.ref b1)])) _
  refine Own.retR X5 hx Bd.notSynchronized Bd.returns rfl rfl (hb hby d19_8) (by decide) (by decide) ?_
  exact ⟨b1, rfl, N5, KK5, hT5⟩
theorem d18_0 : decode prog_100_method_8_code 0 = .ok (.aload_n 0, 1) := by decide +kernel
theorem d18_1 : decode prog_100_method_8_code 1 = .ok (.getfield 19, 3) := by decide +kernel
theorem d18_4 : decode prog_100_method_8_code 4 = .ok (.invokevirtual 48, 3) := by decide +kernel
theorem d18_7 : decode prog_100_method_8_code 7 = .ok (.areturn, 1) := by decide +kernel
theorem pd_25 : parseMethodDescriptor "()Ljava/lang/String;" = some ⟨[], some (.object "java/lang/String")⟩ := by decide +kernel
theorem pn_18 : plainName "com/example/loomwright/loomwright/rule/XmlElement" = true := by first | (simp [plainName, overriddenIn]; done) | decide +kernel
theorem ef_18 (m : MethodId) (xa : Addr)  : entryFrame m #[(.ref xa)] 1 = mkF m 0 #[.val (.ref xa)] [] := by first | (simp [entryFrame, mkF, argsToLocals, Value.category]; done) | rfl
def Q18 (Z : State) (xa : Addr) (oa : Addr) (cs : Int32) (va : Addr) (n : Nat) (ch : Nat → Nat) (h0 : Heap) (n0 : Nat) : Option Value → Heap → List Loc → Prop := fun v h L => ∃ ta, v = some (.ref ta) ∧ Fr n0 L ∧ Keep h0 h [] ∧ STRR Z h ta ch n
set_option maxRecDepth 65536 in
set_option maxHeartbeats 40000000 in
theorem rm18 (l : Launch) (Z : State) (a0 : Array Value) (hw : ∀ d ∈ tables_1, d.before a0 Z = true) (ws : List Jvm.Cond) (xa : Addr) (oa : Addr) (cs : Int32) (va : Addr) (n : Nat) (ch : Nat → Nat) (h0 : Heap) (n0 : Nat) (Z0 : n0 ≤ h0.size) (O0 : Old Z n0 h0) (SC : Sta Z Z.heap "java/lang/String" "COMPACT_STRINGS" "Z" (.int cs)) (hcs : ¬ cs = (0 : Int32)) (FX : Fld Z h0 xa "com/example/loomwright/loomwright/rule/XmlElement" "text" "Ljava/lang/StringBuilder;" (.ref oa)) (hR : SBR Z h0 oa va ch n) (hov : oa ≠ va) (hn : n ≤ 8) :
    MetFree l (⟨"com/example/loomwright/loomwright/rule/XmlElement", "text", "()Ljava/lang/String;"⟩ : MethodName) (head1 (Jvm.Cond.code (⟨"com/example/loomwright/loomwright/rule/XmlElement", "text", "()Ljava/lang/String;"⟩ : MethodName) prog_100_method_8_code 1 (some (.object "java/lang/String")) :: ws) ({ frames := 6, cells := 2, slots := 36, locals := 150 } : Room)) (fun a U => a = #[(.ref xa)] ∧ Z.Warmed39 U.vm ∧ U.heap = h0) (fun _ _ _ _ _ => True) (fun _ U o U' => ∃ v L, o = .returned v ∧ (Q18 Z xa oa cs va n ch h0 n0) v U'.heap L ∧ FrameEnd U o U' L ({ frames := 6, cells := 2, slots := 36, locals := 150 } : Room).cells ({ frames := 6, cells := 2, slots := 36, locals := 150 } : Room).slots) := by
  refine MetFree.of_bodySF (plainFor_of_name pn_18) hisR ?_
  intro p e s m args below meth c s₁ Bd hml0 hP hK
  obtain ⟨rfl, hZ, hh⟩ := hP
  have hx := Bd.exec
  have hby := Bd.bytes
  have hml : c.maxLocals = 1 := hml0
  have hown : s.vm.findClass "com/example/loomwright/loomwright/rule/XmlElement" = some m.cls := findClass_of_methodNamed Bd.named
  have hnm := (name_of_methodNamed Bd.named Bd.method).1
  have X0 : Stand p l e ({ frames := 6, cells := 2, slots := 36, locals := 150 } : Room) s m #[(.ref xa)] below meth c s₁ [] 0 0 := Stand.of_body Bd
  have e0 : s₁.heap = h0 := by rw [← hh, Bd.state]; rfl
  have N0 := Fr.nil n0
  show Own.Fin p e below _ (Own.Post s (Q18 Z xa oa cs va n ch h0 n0) ({ frames := 6, cells := 2, slots := 36, locals := 150 } : Room).cells ({ frames := 6, cells := 2, slots := 36, locals := 150 } : Room).slots)
  refine Own.start (ef_18 m xa) ?_
  have E0 := hR.1
  show Own.Fin p e below (s₁.setTop (mkF m 0 #[.val (.ref xa)] [])) _
  refine Own.go (fun t k => XS.aloadN X0.here hx rfl (hb hby d18_0) rfl rfl k) ?_
  show Own.Fin p e below (s₁.setTop (mkF m 1 #[.val (.ref xa)] [(.ref xa)])) _
  obtain ⟨T1, X1, e1, st1⟩ := getF X0 hx hZ hown (host := "") (Or.inl (hw _ (List.mem_of_getElem? (i := 80) rfl))) Via.refl e0 FX (g := (mkF m 1 #[.val (.ref xa)] [(.ref xa)])) rfl rfl (hb hby d18_1)
  refine Own.go st1 ?_
  show Own.Fin p e below (T1.setTop (mkF m 4 #[.val (.ref xa)] [(.ref oa)])) _
  refine Own.cV X1 hx hZ hown (hw _ (List.mem_of_getElem? (i := 135) rfl)) (hw _ (List.mem_of_getElem? (i := 136) rfl)) (notFace_of_selects (args := #[]) (mvT hZ (hw _ (List.mem_of_getElem? (i := 138) rfl)))) (hw _ (List.mem_of_getElem? (i := 138) rfl)) (hw _ (List.mem_of_getElem? (i := 137) rfl)) (hw _ (List.mem_of_getElem? (i := 64) rfl)) (hw _ (List.mem_of_getElem? (i := 139) rfl)) (by decide) (rm19 l Z a0 hw [] oa cs va n ch h0 n0 Z0 O0 SC hcs hR hov hn) (by decide) (W := 0) (by decide) (argsL := []) (rest := []) E0 (by rw [hml]; rfl) (lenOf pd_25 rfl) rfl (Nat.le_of_eq rfl) (hb hby d18_4) e1 (by decide) (by decide) ?_
  intro T2 L2 v2 X2 hQ2
  obtain ⟨ta2, rfl, N2q, K2q, hT2⟩ := hQ2
  have N2 := Fr.app N0 N2q
  show Own.Fin p e below (T2.setTop (mkF m 7 #[.val (.ref xa)] [(.ref ta2)])) _
  refine Own.retR X2 hx Bd.notSynchronized Bd.returns rfl rfl (hb hby d18_7) (by decide) (by decide) ?_
  exact ⟨ta2, rfl, N2, K2q, hT2⟩
theorem own_len : ∀ n < 9, ((Int32.ofNat n) >>> ((nar .byte (0 : Int32)) &&& 31)) = Int32.ofNat n ∧ ((Int32.ofNat (2 * n)) >>> ((nar .byte (1 : Int32)) &&& 31)) = Int32.ofNat n ∧ ((Int32.ofNat (2 * n)) >>> ((1 : Int32) &&& 31)) = Int32.ofNat n := by decide +kernel
theorem own_lc : ∀ c < 256, nar .char (((sb c) &&& (255 : Int32)).toUInt32.toUInt16.toUInt32.toInt32) = Int32.ofNat c := by decide +kernel
theorem own_nc (c : Nat) (h : c < 65536) : nar .char (Int32.ofNat c) = Int32.ofNat c := by
  show (Int32.ofNat c).toUInt32.toUInt16.toUInt32.toInt32 = _
  have a := c_i2c (Int32.ofNat c)
  rw [Int32.toInt_ofNat_small (by omega)] at a
  apply Int32.toInt_inj.mp
  rw [Int32.toInt_ofNat_small (by omega)]
  omega
theorem own_nc2 (c : Nat) (h : c < 65536) : nar .char (Int32.ofNat (c % 256 + 256 * (c / 256))) = Int32.ofNat c := by
  rw [show c % 256 + 256 * (c / 256) = c by omega]; exact own_nc c h
theorem d30_0 : decode jdk_42_method_152_code 0 = .ok (.getstatic 38, 3) := by decide +kernel
theorem d30_3 : decode jdk_42_method_152_code 3 = .ok (.ifCond .eq 10, 3) := by decide +kernel
theorem d30_6 : decode jdk_42_method_152_code 6 = .ok (.aload_n 0, 1) := by decide +kernel
theorem d30_7 : decode jdk_42_method_152_code 7 = .ok (.getfield 15, 3) := by decide +kernel
theorem d30_10 : decode jdk_42_method_152_code 10 = .ok (.goto 4, 3) := by decide +kernel
theorem d30_14 : decode jdk_42_method_152_code 14 = .ok (.ireturn, 1) := by decide +kernel
theorem pn_30 : plainName "java/lang/String" = true := by first | (simp [plainName, overriddenIn]; done) | decide +kernel
theorem ef_30 (m : MethodId) (ta : Addr)  : entryFrame m #[(.ref ta)] 1 = mkF m 0 #[.val (.ref ta)] [] := by first | (simp [entryFrame, mkF, argsToLocals, Value.category]; done) | rfl
def Q30 (Z : State) (ta : Addr) (cs co : Int32) (h0 : Heap) (n0 : Nat) : Option Value → Heap → List Loc → Prop := fun v h L => v = some (.int (nar .byte co)) ∧ Fr n0 L ∧ h = h0
set_option maxRecDepth 65536 in
set_option maxHeartbeats 40000000 in
theorem rm30 (l : Launch) (Z : State) (a0 : Array Value) (hw : ∀ d ∈ tables_1, d.before a0 Z = true) (ws : List Jvm.Cond) (ta : Addr) (cs co : Int32) (h0 : Heap) (n0 : Nat) (Z0 : n0 ≤ h0.size) (O0 : Old Z n0 h0) (SC : Sta Z Z.heap "java/lang/String" "COMPACT_STRINGS" "Z" (.int cs)) (hcs : ¬ cs = (0 : Int32)) (Ft_coder : Fld Z h0 ta "java/lang/String" "coder" "B" (.int co)) :
    MetFree l (⟨"java/lang/String", "coder", "()B"⟩ : MethodName) (head1 (Jvm.Cond.code (⟨"java/lang/String", "coder", "()B"⟩ : MethodName) jdk_42_method_152_code 1 (some .byte) :: ws) ({ frames := 0, cells := 0, slots := 0, locals := 0 } : Room)) (fun a U => a = #[(.ref ta)] ∧ Z.Warmed39 U.vm ∧ U.heap = h0) (fun _ _ _ _ _ => True) (fun _ U o U' => ∃ v L, o = .returned v ∧ (Q30 Z ta cs co h0 n0) v U'.heap L ∧ FrameEnd U o U' L ({ frames := 0, cells := 0, slots := 0, locals := 0 } : Room).cells ({ frames := 0, cells := 0, slots := 0, locals := 0 } : Room).slots) := by
  refine MetFree.of_bodySF (plainFor_of_name pn_30) hisR ?_
  intro p e s m args below meth c s₁ Bd hml0 hP hK
  obtain ⟨rfl, hZ, hh⟩ := hP
  have hx := Bd.exec
  have hby := Bd.bytes
  have hml : c.maxLocals = 1 := hml0
  have hown : s.vm.findClass "java/lang/String" = some m.cls := findClass_of_methodNamed Bd.named
  have hnm := (name_of_methodNamed Bd.named Bd.method).1
  have X0 : Stand p l e ({ frames := 0, cells := 0, slots := 0, locals := 0 } : Room) s m #[(.ref ta)] below meth c s₁ [] 0 0 := Stand.of_body Bd
  have e0 : s₁.heap = h0 := by rw [← hh, Bd.state]; rfl
  have N0 := Fr.nil n0
  show Own.Fin p e below _ (Own.Post s (Q30 Z ta cs co h0 n0) ({ frames := 0, cells := 0, slots := 0, locals := 0 } : Room).cells ({ frames := 0, cells := 0, slots := 0, locals := 0 } : Room).slots)
  refine Own.start (ef_30 m ta) ?_
  show Own.Fin p e below (s₁.setTop (mkF m 0 #[.val (.ref ta)] [])) _
  obtain ⟨T1, X1, e1, st1⟩ := getS2 X0 hx hZ hown (host := "") (Or.inl (hw _ (List.mem_of_getElem? (i := 193) rfl))) Via.refl e0 (SC.ext O0.2) (g := (mkF m 0 #[.val (.ref ta)] [])) rfl (hb hby d30_0)
  refine Own.go st1 ?_
  show Own.Fin p e below (T1.setTop (mkF m 3 #[.val (.ref ta)] [(.int cs)])) _
  have hc3_1 : ¬ (cs = (0 : Int32)) := hcs
  refine Own.go (fun t k => XS.ifNo X1.here hx rfl (hb hby d30_3) rfl ((if0 _ _).trans (feq hc3_1).1) k) ?_
  show Own.Fin p e below (T1.setTop (mkF m 6 #[.val (.ref ta)] [])) _
  refine Own.go (fun t k => XS.aloadN X1.here hx rfl (hb hby d30_6) rfl rfl k) ?_
  show Own.Fin p e below (T1.setTop (mkF m 7 #[.val (.ref ta)] [(.ref ta)])) _
  obtain ⟨T3, X3, e3, st3⟩ := getF X1 hx hZ hown (host := "") (Or.inl (hw _ (List.mem_of_getElem? (i := 163) rfl))) Via.refl e1 Ft_coder (g := (mkF m 7 #[.val (.ref ta)] [(.ref ta)])) rfl rfl (hb hby d30_7)
  refine Own.go st3 ?_
  show Own.Fin p e below (T3.setTop (mkF m 10 #[.val (.ref ta)] [(.int co)])) _
  refine Own.go (fun t k => XS.goto X3.here hx rfl (pc0 := 10) (pc' := 14) rfl (hb hby d30_10) (by decide) (by decide) k) ?_
  show Own.Fin p e below (T3.setTop (mkF m 14 #[.val (.ref ta)] [(.int co)])) _
  refine Own.retN X3 hx Bd.notSynchronized (t := .byte) Bd.returns (by simp) (hb hby d30_14) (by decide) (by decide) ?_
  exact ⟨rfl, N0, e3⟩
theorem d33_0 : decode jdk_42_method_154_code 0 = .ok (.getstatic 38, 3) := by decide +kernel
theorem d33_3 : decode jdk_42_method_154_code 3 = .ok (.ifCond .eq 14, 3) := by decide +kernel
theorem d33_6 : decode jdk_42_method_154_code 6 = .ok (.aload_n 0, 1) := by decide +kernel
theorem d33_7 : decode jdk_42_method_154_code 7 = .ok (.getfield 15, 3) := by decide +kernel
theorem d33_10 : decode jdk_42_method_154_code 10 = .ok (.ifCond .ne 7, 3) := by decide +kernel
theorem d33_13 : decode jdk_42_method_154_code 13 = .ok (.iconst 1, 1) := by decide +kernel
theorem d33_14 : decode jdk_42_method_154_code 14 = .ok (.goto 4, 3) := by decide +kernel
theorem d33_17 : decode jdk_42_method_154_code 17 = .ok (.iconst 0, 1) := by decide +kernel
theorem d33_18 : decode jdk_42_method_154_code 18 = .ok (.ireturn, 1) := by decide +kernel
theorem pn_33 : plainName "java/lang/String" = true := by first | (simp [plainName, overriddenIn]; done) | decide +kernel
theorem ef_33 (m : MethodId) (ta : Addr)  : entryFrame m #[(.ref ta)] 1 = mkF m 0 #[.val (.ref ta)] [] := by first | (simp [entryFrame, mkF, argsToLocals, Value.category]; done) | rfl
def Q33 (Z : State) (ta : Addr) (cs co : Int32) (h0 : Heap) (n0 : Nat) : Option Value → Heap → List Loc → Prop := fun v h L => v = some (.int (F_isl co)) ∧ Fr n0 L ∧ h = h0
set_option maxRecDepth 65536 in
set_option maxHeartbeats 40000000 in
theorem rm33 (l : Launch) (Z : State) (a0 : Array Value) (hw : ∀ d ∈ tables_1, d.before a0 Z = true) (ws : List Jvm.Cond) (ta : Addr) (cs co : Int32) (h0 : Heap) (n0 : Nat) (Z0 : n0 ≤ h0.size) (O0 : Old Z n0 h0) (SC : Sta Z Z.heap "java/lang/String" "COMPACT_STRINGS" "Z" (.int cs)) (hcs : ¬ cs = (0 : Int32)) (Ft_coder : Fld Z h0 ta "java/lang/String" "coder" "B" (.int co)) :
    MetFree l (⟨"java/lang/String", "isLatin1", "()Z"⟩ : MethodName) (head1 (Jvm.Cond.code (⟨"java/lang/String", "isLatin1", "()Z"⟩ : MethodName) jdk_42_method_154_code 1 (some .boolean) :: ws) ({ frames := 0, cells := 0, slots := 0, locals := 0 } : Room)) (fun a U => a = #[(.ref ta)] ∧ Z.Warmed39 U.vm ∧ U.heap = h0) (fun _ _ _ _ _ => True) (fun _ U o U' => ∃ v L, o = .returned v ∧ (Q33 Z ta cs co h0 n0) v U'.heap L ∧ FrameEnd U o U' L ({ frames := 0, cells := 0, slots := 0, locals := 0 } : Room).cells ({ frames := 0, cells := 0, slots := 0, locals := 0 } : Room).slots) := by
  refine MetFree.of_bodySF (plainFor_of_name pn_33) hisR ?_
  intro p e s m args below meth c s₁ Bd hml0 hP hK
  obtain ⟨rfl, hZ, hh⟩ := hP
  have hx := Bd.exec
  have hby := Bd.bytes
  have hml : c.maxLocals = 1 := hml0
  have hown : s.vm.findClass "java/lang/String" = some m.cls := findClass_of_methodNamed Bd.named
  have hnm := (name_of_methodNamed Bd.named Bd.method).1
  have X0 : Stand p l e ({ frames := 0, cells := 0, slots := 0, locals := 0 } : Room) s m #[(.ref ta)] below meth c s₁ [] 0 0 := Stand.of_body Bd
  have e0 : s₁.heap = h0 := by rw [← hh, Bd.state]; rfl
  have N0 := Fr.nil n0
  show Own.Fin p e below _ (Own.Post s (Q33 Z ta cs co h0 n0) ({ frames := 0, cells := 0, slots := 0, locals := 0 } : Room).cells ({ frames := 0, cells := 0, slots := 0, locals := 0 } : Room).slots)
  refine Own.start (ef_33 m ta) ?_
  show Own.Fin p e below (s₁.setTop (mkF m 0 #[.val (.ref ta)] [])) _
  obtain ⟨T1, X1, e1, st1⟩ := getS2 X0 hx hZ hown (host := "") (Or.inl (hw _ (List.mem_of_getElem? (i := 193) rfl))) Via.refl e0 (SC.ext O0.2) (g := (mkF m 0 #[.val (.ref ta)] [])) rfl (hb hby d33_0)
  refine Own.go st1 ?_
  show Own.Fin p e below (T1.setTop (mkF m 3 #[.val (.ref ta)] [(.int cs)])) _
  have hc3_1 : ¬ (cs = (0 : Int32)) := hcs
  refine Own.go (fun t k => XS.ifNo X1.here hx rfl (hb hby d33_3) rfl ((if0 _ _).trans (feq hc3_1).1) k) ?_
  show Own.Fin p e below (T1.setTop (mkF m 6 #[.val (.ref ta)] [])) _
  refine Own.go (fun t k => XS.aloadN X1.here hx rfl (hb hby d33_6) rfl rfl k) ?_
  show Own.Fin p e below (T1.setTop (mkF m 7 #[.val (.ref ta)] [(.ref ta)])) _
  obtain ⟨T3, X3, e3, st3⟩ := getF X1 hx hZ hown (host := "") (Or.inl (hw _ (List.mem_of_getElem? (i := 163) rfl))) Via.refl e1 Ft_coder (g := (mkF m 7 #[.val (.ref ta)] [(.ref ta)])) rfl rfl (hb hby d33_7)
  refine Own.go st3 ?_
  show Own.Fin p e below (T3.setTop (mkF m 10 #[.val (.ref ta)] [(.int co)])) _
  by_cases hc10_3 : co = (0 : Int32)
  · skip
    refine Own.go (fun t k => XS.ifNo X3.here hx rfl (hb hby d33_10) rfl ((if0 _ _).trans (teq hc10_3).2) k) ?_
    show Own.Fin p e below (T3.setTop (mkF m 13 #[.val (.ref ta)] [])) _
    refine Own.go (fun t k => XS.iconst X3.here hx rfl (hb hby d33_13) k) ?_
    show Own.Fin p e below (T3.setTop (mkF m 14 #[.val (.ref ta)] [(.int (1 : Int32))])) _
    refine Own.go (fun t k => XS.goto X3.here hx rfl (pc0 := 14) (pc' := 18) rfl (hb hby d33_14) (by decide) (by decide) k) ?_
    show Own.Fin p e below (T3.setTop (mkF m 18 #[.val (.ref ta)] [(.int (1 : Int32))])) _
    refine Own.retN X3 hx Bd.notSynchronized (t := .boolean) Bd.returns (by simp) (hb hby d33_18) (by decide) (by decide) ?_
    exact ⟨by rw [show nar .boolean (1 : Int32) = F_isl co by rw [F_isl, if_pos hc10_3]; rfl], N0, e3⟩
  · skip
    refine Own.go (fun t k => XS.ifYes X3.here hx rfl (pc0 := 10) (pc' := 17) rfl (hb hby d33_10) rfl ((if0 _ _).trans (feq hc10_3).2) (by decide) (by decide) k) ?_
    show Own.Fin p e below (T3.setTop (mkF m 17 #[.val (.ref ta)] [])) _
    refine Own.go (fun t k => XS.iconst X3.here hx rfl (hb hby d33_17) k) ?_
    show Own.Fin p e below (T3.setTop (mkF m 18 #[.val (.ref ta)] [(.int (0 : Int32))])) _
    refine Own.retN X3 hx Bd.notSynchronized (t := .boolean) Bd.returns (by simp) (hb hby d33_18) (by decide) (by decide) ?_
    exact ⟨by rw [show nar .boolean (0 : Int32) = F_isl co by rw [F_isl, if_neg hc10_3]; rfl], N0, e3⟩
theorem d29_0 : decode jdk_42_method_54_code 0 = .ok (.aload_n 0, 1) := by decide +kernel
theorem d29_1 : decode jdk_42_method_54_code 1 = .ok (.getfield 9, 3) := by decide +kernel
theorem d29_4 : decode jdk_42_method_54_code 4 = .ok (.arraylength, 1) := by decide +kernel
theorem d29_5 : decode jdk_42_method_54_code 5 = .ok (.aload_n 0, 1) := by decide +kernel
theorem d29_6 : decode jdk_42_method_54_code 6 = .ok (.invokevirtual 335, 3) := by decide +kernel
theorem d29_9 : decode jdk_42_method_54_code 9 = .ok (.ishr, 1) := by decide +kernel
theorem d29_10 : decode jdk_42_method_54_code 10 = .ok (.ireturn, 1) := by decide +kernel
theorem pd_26 : parseMethodDescriptor "()B" = some ⟨[], some .byte⟩ := by decide +kernel
theorem pn_29 : plainName "java/lang/String" = true := by first | (simp [plainName, overriddenIn]; done) | decide +kernel
theorem ef_29 (m : MethodId) (ta : Addr)  : entryFrame m #[(.ref ta)] 1 = mkF m 0 #[.val (.ref ta)] [] := by first | (simp [entryFrame, mkF, argsToLocals, Value.category]; done) | rfl
def Q29 (Z : State) (ta : Addr) (cs : Int32) (n : Nat) (ch : Nat → Nat) (h0 : Heap) (n0 : Nat) : Option Value → Heap → List Loc → Prop := fun v h L => v = some (.int (Int32.ofNat n)) ∧ Fr n0 L ∧ h = h0
set_option maxRecDepth 65536 in
set_option maxHeartbeats 40000000 in
theorem rm29 (l : Launch) (Z : State) (a0 : Array Value) (hw : ∀ d ∈ tables_1, d.before a0 Z = true) (ws : List Jvm.Cond) (ta : Addr) (cs : Int32) (n : Nat) (ch : Nat → Nat) (h0 : Heap) (n0 : Nat) (Z0 : n0 ≤ h0.size) (O0 : Old Z n0 h0) (SC : Sta Z Z.heap "java/lang/String" "COMPACT_STRINGS" "Z" (.int cs)) (hcs : ¬ cs = (0 : Int32)) (hT : STRR Z h0 ta ch n) (hn : n ≤ 8) :
    MetFree l (⟨"java/lang/String", "length", "()I"⟩ : MethodName) (head1 (Jvm.Cond.code (⟨"java/lang/String", "length", "()I"⟩ : MethodName) jdk_42_method_54_code 1 (some .int) :: ws) ({ frames := 1, cells := 0, slots := 0, locals := 20 } : Room)) (fun a U => a = #[(.ref ta)] ∧ Z.Warmed39 U.vm ∧ U.heap = h0) (fun _ _ _ _ _ => True) (fun _ U o U' => ∃ v L, o = .returned v ∧ (Q29 Z ta cs n ch h0 n0) v U'.heap L ∧ FrameEnd U o U' L ({ frames := 1, cells := 0, slots := 0, locals := 20 } : Room).cells ({ frames := 1, cells := 0, slots := 0, locals := 20 } : Room).slots) := by
  refine MetFree.of_bodySF (plainFor_of_name pn_29) hisR ?_
  intro p e s m args below meth c s₁ Bd hml0 hP hK
  obtain ⟨rfl, hZ, hh⟩ := hP
  have hx := Bd.exec
  have hby := Bd.bytes
  have hml : c.maxLocals = 1 := hml0
  have hown : s.vm.findClass "java/lang/String" = some m.cls := findClass_of_methodNamed Bd.named
  have hnm := (name_of_methodNamed Bd.named Bd.method).1
  have X0 : Stand p l e ({ frames := 1, cells := 0, slots := 0, locals := 20 } : Room) s m #[(.ref ta)] below meth c s₁ [] 0 0 := Stand.of_body Bd
  have e0 : s₁.heap = h0 := by rw [← hh, Bd.state]; rfl
  have N0 := Fr.nil n0
  show Own.Fin p e below _ (Own.Post s (Q29 Z ta cs n ch h0 n0) ({ frames := 1, cells := 0, slots := 0, locals := 20 } : Room).cells ({ frames := 1, cells := 0, slots := 0, locals := 20 } : Room).slots)
  refine Own.start (ef_29 m ta) ?_
  show Own.Fin p e below (s₁.setTop (mkF m 0 #[.val (.ref ta)] [])) _
  obtain ⟨Et, b_, k_, g_, Ft_value, hor⟩ := hT
  rcases hor with ⟨Ft_coder, VA, hA⟩ | ⟨Ft_coder, VA, hU⟩
  · skip
    show Own.Fin p e below (s₁.setTop (mkF m 0 #[.val (.ref ta)] [])) _
    refine Own.go (fun t k => XS.aloadN X0.here hx rfl (hb hby d29_0) rfl rfl k) ?_
    show Own.Fin p e below (s₁.setTop (mkF m 1 #[.val (.ref ta)] [(.ref ta)])) _
    obtain ⟨T1, X1, e1, st1⟩ := getF X0 hx hZ hown (host := "") (Or.inl (hw _ (List.mem_of_getElem? (i := 182) rfl))) Via.refl e0 Ft_value (g := (mkF m 1 #[.val (.ref ta)] [(.ref ta)])) rfl rfl (hb hby d29_1)
    refine Own.go st1 ?_
    show Own.Fin p e below (T1.setTop (mkF m 4 #[.val (.ref ta)] [(.ref b_)])) _
    refine Own.alen X1 hx hZ e1 VA (hb hby d29_4) ?_
    show Own.Fin p e below (T1.setTop (mkF m 5 #[.val (.ref ta)] [(.int (Int32.ofNat n))])) _
    refine Own.go (fun t k => XS.aloadN X1.here hx rfl (hb hby d29_5) rfl rfl k) ?_
    show Own.Fin p e below (T1.setTop (mkF m 6 #[.val (.ref ta)] [(.ref ta), (.int (Int32.ofNat n))])) _
    refine Own.cV X1 hx hZ hown (hw _ (List.mem_of_getElem? (i := 188) rfl)) (hw _ (List.mem_of_getElem? (i := 189) rfl)) (notFace_of_selects (args := #[]) (mvT hZ (hw _ (List.mem_of_getElem? (i := 191) rfl)))) (hw _ (List.mem_of_getElem? (i := 191) rfl)) (hw _ (List.mem_of_getElem? (i := 190) rfl)) (hw _ (List.mem_of_getElem? (i := 9) rfl)) (hw _ (List.mem_of_getElem? (i := 192) rfl)) (by decide) (rm30 l Z a0 hw [] ta cs (0 : Int32) h0 n0 Z0 O0 SC hcs Ft_coder) (by decide) (W := 1) (by decide) (argsL := []) (rest := [(.int (Int32.ofNat n))]) Et (by rw [hml]; rfl) (lenOf pd_26 rfl) rfl (Nat.le_of_eq rfl) (hb hby d29_6) e1 (by decide) (by decide) ?_
    intro T2 L2 v2 X2 hQ2
    obtain ⟨rfl, N2q, e2⟩ := hQ2
    have N2 := Fr.app N0 N2q
    show Own.Fin p e below (T2.setTop (mkF m 9 #[.val (.ref ta)] [(.int (nar .byte (0 : Int32))), (.int (Int32.ofNat n))])) _
    refine Own.go (fun t k => XS.ishr X2.here hx rfl (hb hby d29_9) rfl k) ?_
    show Own.Fin p e below (T2.setTop (mkF m 10 #[.val (.ref ta)] [(.int (((Int32.ofNat n) >>> ((nar .byte (0 : Int32)) &&& 31))))])) _
    refine Own.retI X2 hx Bd.notSynchronized Bd.returns (hb hby d29_10) (by decide) (by decide) ?_
    exact ⟨congrArg (fun z => some (Value.int z)) (own_len n (by omega)).1, N2, e2⟩
  · skip
    show Own.Fin p e below (s₁.setTop (mkF m 0 #[.val (.ref ta)] [])) _
    refine Own.go (fun t k => XS.aloadN X0.here hx rfl (hb hby d29_0) rfl rfl k) ?_
    show Own.Fin p e below (s₁.setTop (mkF m 1 #[.val (.ref ta)] [(.ref ta)])) _
    obtain ⟨T3, X3, e3, st3⟩ := getF X0 hx hZ hown (host := "") (Or.inl (hw _ (List.mem_of_getElem? (i := 182) rfl))) Via.refl e0 Ft_value (g := (mkF m 1 #[.val (.ref ta)] [(.ref ta)])) rfl rfl (hb hby d29_1)
    refine Own.go st3 ?_
    show Own.Fin p e below (T3.setTop (mkF m 4 #[.val (.ref ta)] [(.ref b_)])) _
    refine Own.alen X3 hx hZ e3 VA (hb hby d29_4) ?_
    show Own.Fin p e below (T3.setTop (mkF m 5 #[.val (.ref ta)] [(.int (Int32.ofNat (2 * n)))])) _
    refine Own.go (fun t k => XS.aloadN X3.here hx rfl (hb hby d29_5) rfl rfl k) ?_
    show Own.Fin p e below (T3.setTop (mkF m 6 #[.val (.ref ta)] [(.ref ta), (.int (Int32.ofNat (2 * n)))])) _
    refine Own.cV X3 hx hZ hown (hw _ (List.mem_of_getElem? (i := 188) rfl)) (hw _ (List.mem_of_getElem? (i := 189) rfl)) (notFace_of_selects (args := #[]) (mvT hZ (hw _ (List.mem_of_getElem? (i := 191) rfl)))) (hw _ (List.mem_of_getElem? (i := 191) rfl)) (hw _ (List.mem_of_getElem? (i := 190) rfl)) (hw _ (List.mem_of_getElem? (i := 9) rfl)) (hw _ (List.mem_of_getElem? (i := 192) rfl)) (by decide) (rm30 l Z a0 hw [] ta cs (1 : Int32) h0 n0 Z0 O0 SC hcs Ft_coder) (by decide) (W := 1) (by decide) (argsL := []) (rest := [(.int (Int32.ofNat (2 * n)))]) Et (by rw [hml]; rfl) (lenOf pd_26 rfl) rfl (Nat.le_of_eq rfl) (hb hby d29_6) e3 (by decide) (by decide) ?_
    intro T4 L4 v4 X4 hQ4
    obtain ⟨rfl, N4q, e4⟩ := hQ4
    have N4 := Fr.app N0 N4q
    show Own.Fin p e below (T4.setTop (mkF m 9 #[.val (.ref ta)] [(.int (nar .byte (1 : Int32))), (.int (Int32.ofNat (2 * n)))])) _
    refine Own.go (fun t k => XS.ishr X4.here hx rfl (hb hby d29_9) rfl k) ?_
    show Own.Fin p e below (T4.setTop (mkF m 10 #[.val (.ref ta)] [(.int (((Int32.ofNat (2 * n)) >>> ((nar .byte (1 : Int32)) &&& 31))))])) _
    refine Own.retI X4 hx Bd.notSynchronized Bd.returns (hb hby d29_10) (by decide) (by decide) ?_
    exact ⟨congrArg (fun z => some (Value.int z)) (own_len n (by omega)).2.1, N4, e4⟩
theorem d34_0 : decode jdk_43_method_2_code 0 = .ok (.iload_n 1, 1) := by decide +kernel
theorem d34_1 : decode jdk_43_method_2_code 1 = .ok (.aload_n 0, 1) := by decide +kernel
theorem d34_2 : decode jdk_43_method_2_code 2 = .ok (.arraylength, 1) := by decide +kernel
theorem d34_3 : decode jdk_43_method_2_code 3 = .ok (.invokestatic 9, 3) := by decide +kernel
theorem d34_6 : decode jdk_43_method_2_code 6 = .ok (.aload_n 0, 1) := by decide +kernel
theorem d34_7 : decode jdk_43_method_2_code 7 = .ok (.iload_n 1, 1) := by decide +kernel
theorem d34_8 : decode jdk_43_method_2_code 8 = .ok (.baload, 1) := by decide +kernel
theorem d34_9 : decode jdk_43_method_2_code 9 = .ok (.sipush 255, 3) := by decide +kernel
theorem d34_12 : decode jdk_43_method_2_code 12 = .ok (.iand, 1) := by decide +kernel
theorem d34_13 : decode jdk_43_method_2_code 13 = .ok (.i2c, 1) := by decide +kernel
theorem d34_14 : decode jdk_43_method_2_code 14 = .ok (.ireturn, 1) := by decide +kernel
theorem pn_34 : plainName "java/lang/StringLatin1" = true := by first | (simp [plainName, overriddenIn]; done) | decide +kernel
theorem ef_34 (m : MethodId) (da : Addr) (iv : Int32)  : entryFrame m #[(.ref da), (.int iv)] 2 = mkF m 0 #[.val (.ref da), .val (.int iv)] [] := by first | (simp [entryFrame, mkF, argsToLocals, Value.category]; done) | rfl
def Q34 (Z : State) (da : Addr) (iv : Int32) (fs_ : Value) (kD : ClassId) (zv : Int32) (N : Nat) (g : Nat → Value) (iN cN : Nat) (h0 : Heap) (n0 : Nat) : Option Value → Heap → List Loc → Prop := fun v h L => v = some (.int (Int32.ofNat cN)) ∧ Fr n0 L ∧ h = h0
set_option maxRecDepth 65536 in
set_option maxHeartbeats 40000000 in
theorem rm34 (l : Launch) (Z : State) (a0 : Array Value) (hw : ∀ d ∈ tables_1, d.before a0 Z = true) (ws : List Jvm.Cond) (da : Addr) (iv : Int32) (fs_ : Value) (kD : ClassId) (zv : Int32) (N : Nat) (g : Nat → Value) (iN cN : Nat) (h0 : Heap) (n0 : Nat) (Z0 : n0 ≤ h0.size) (O0 : Old Z n0 h0) (SF : Sta Z Z.heap "jdk/internal/util/Preconditions" "SIOOBE_FORMATTER" "Ljava/util/function/BiFunction;" fs_) (hc_s : fs_.category = 1) (V0 : Arv Z h0 da kD .byte zv (tab N g) (.int (0 : Int32))) (hz : zv = Int32.ofNat N) (hN : N < 2147483648) (hi : iv = Int32.ofNat iN) (hiN : iN < N) (hg : g iN = .int (sb cN)) (hcN : cN < 256) :
    MetFree l (⟨"java/lang/StringLatin1", "charAt", "([BI)C"⟩ : MethodName) (head1 (Jvm.Cond.code (⟨"java/lang/StringLatin1", "charAt", "([BI)C"⟩ : MethodName) jdk_43_method_2_code 2 (some .char) :: ws) ({ frames := 2, cells := 0, slots := 0, locals := 50 } : Room)) (fun a U => a = #[(.ref da), (.int iv)] ∧ Z.Warmed39 U.vm ∧ U.heap = h0) (fun _ _ _ _ _ => True) (fun _ U o U' => ∃ v L, o = .returned v ∧ (Q34 Z da iv fs_ kD zv N g iN cN h0 n0) v U'.heap L ∧ FrameEnd U o U' L ({ frames := 2, cells := 0, slots := 0, locals := 50 } : Room).cells ({ frames := 2, cells := 0, slots := 0, locals := 50 } : Room).slots) := by
  refine MetFree.of_bodySF (plainFor_of_name pn_34) hisR ?_
  intro p e s m args below meth c s₁ Bd hml0 hP hK
  obtain ⟨rfl, hZ, hh⟩ := hP
  have hx := Bd.exec
  have hby := Bd.bytes
  have hml : c.maxLocals = 2 := hml0
  have hown : s.vm.findClass "java/lang/StringLatin1" = some m.cls := findClass_of_methodNamed Bd.named
  have hnm := (name_of_methodNamed Bd.named Bd.method).1
  have X0 : Stand p l e ({ frames := 2, cells := 0, slots := 0, locals := 50 } : Room) s m #[(.ref da), (.int iv)] below meth c s₁ [] 0 0 := Stand.of_body Bd
  have e0 : s₁.heap = h0 := by rw [← hh, Bd.state]; rfl
  have N0 := Fr.nil n0
  show Own.Fin p e below _ (Own.Post s (Q34 Z da iv fs_ kD zv N g iN cN h0 n0) ({ frames := 2, cells := 0, slots := 0, locals := 50 } : Room).cells ({ frames := 2, cells := 0, slots := 0, locals := 50 } : Room).slots)
  refine Own.start (ef_34 m da iv) ?_
  show Own.Fin p e below (s₁.setTop (mkF m 0 #[.val (.ref da), .val (.int iv)] [])) _
  refine Own.go (fun t k => XS.iloadN X0.here hx rfl (hb hby d34_0) rfl k) ?_
  show Own.Fin p e below (s₁.setTop (mkF m 1 #[.val (.ref da), .val (.int iv)] [(.int iv)])) _
  refine Own.go (fun t k => XS.aloadN X0.here hx rfl (hb hby d34_1) rfl rfl k) ?_
  show Own.Fin p e below (s₁.setTop (mkF m 2 #[.val (.ref da), .val (.int iv)] [(.ref da), (.int iv)])) _
  refine Own.alen X0 hx hZ e0 V0 (hb hby d34_2) ?_
  show Own.Fin p e below (s₁.setTop (mkF m 3 #[.val (.ref da), .val (.int iv)] [(.int zv), (.int iv)])) _
  refine Own.cS X0 hx hZ hown (hw _ (List.mem_of_getElem? (i := 211) rfl)) (hw _ (List.mem_of_getElem? (i := 212) rfl)) (hw _ (List.mem_of_getElem? (i := 9) rfl)) (hw _ (List.mem_of_getElem? (i := 213) rfl)) (by decide) (rm35 l Z a0 hw [] iv zv fs_ h0 n0 Z0 O0 SF hc_s (by rw [hi]; exact fun q => absurd ((i_lt iN 0 (by omega) (by decide)).mp q) (by omega)) (by rw [hi, hz]; exact (i_lt iN N (by omega) hN).mpr hiN)) (by decide) (W := 0) (by decide) (argsL := [(.int iv), (.int zv)]) (rest := []) (by rw [hml]; rfl) (lenOf pd_6 rfl) rfl (Nat.le_of_eq rfl) (hb hby d34_3) e0 (by decide) (by decide) ?_
  intro T1 L1 v1 X1 hQ1
  obtain ⟨rfl, N1q, e1⟩ := hQ1
  have N1 := Fr.app N0 N1q
  show Own.Fin p e below (T1.setTop (mkF m 6 #[.val (.ref da), .val (.int iv)] [])) _
  refine Own.go (fun t k => XS.aloadN X1.here hx rfl (hb hby d34_6) rfl rfl k) ?_
  show Own.Fin p e below (T1.setTop (mkF m 7 #[.val (.ref da), .val (.int iv)] [(.ref da)])) _
  refine Own.go (fun t k => XS.iloadN X1.here hx rfl (hb hby d34_7) rfl k) ?_
  show Own.Fin p e below (T1.setTop (mkF m 8 #[.val (.ref da), .val (.int iv)] [(.int iv), (.ref da)])) _
  refine ldBT (x := (sb cN)) X1 hx hZ e1 V0 (hb hby d34_8) hz hN iN hi hiN hg ?_
  show Own.Fin p e below (T1.setTop (mkF m 9 #[.val (.ref da), .val (.int iv)] [(.int (sb cN))])) _
  refine Own.go (fun t k => XS.sipush X1.here hx rfl (hb hby d34_9) k) ?_
  show Own.Fin p e below (T1.setTop (mkF m 12 #[.val (.ref da), .val (.int iv)] [(.int (255 : Int32)), (.int (sb cN))])) _
  refine Own.go (fun t k => XS.iand X1.here hx rfl (hb hby d34_12) rfl k) ?_
  show Own.Fin p e below (T1.setTop (mkF m 13 #[.val (.ref da), .val (.int iv)] [(.int ((sb cN) &&& (255 : Int32)))])) _
  refine Own.go (fun t k => XS.i2c X1.here hx rfl (hb hby d34_13) rfl k) ?_
  show Own.Fin p e below (T1.setTop (mkF m 14 #[.val (.ref da), .val (.int iv)] [(.int ((((sb cN) &&& (255 : Int32))).toUInt32.toUInt16.toUInt32.toInt32))])) _
  refine Own.retN X1 hx Bd.notSynchronized (t := .char) Bd.returns (by simp) (hb hby d34_14) (by decide) (by decide) ?_
  exact ⟨congrArg (fun z => some (Value.int z)) (own_lc cN hcN), N1, e1⟩
theorem d51_0 : decode jdk_52_method_83_code 0 = .ok (.iload_n 1, 1) := by decide +kernel
theorem d51_1 : decode jdk_52_method_83_code 1 = .ok (.aload_n 0, 1) := by decide +kernel
theorem d51_2 : decode jdk_52_method_83_code 2 = .ok (.invokestatic 67, 3) := by decide +kernel
theorem d51_5 : decode jdk_52_method_83_code 5 = .ok (.aload_n 0, 1) := by decide +kernel
theorem d51_6 : decode jdk_52_method_83_code 6 = .ok (.iload_n 1, 1) := by decide +kernel
theorem d51_7 : decode jdk_52_method_83_code 7 = .ok (.invokestatic 71, 3) := by decide +kernel
theorem d51_10 : decode jdk_52_method_83_code 10 = .ok (.ireturn, 1) := by decide +kernel
theorem pd_27 : parseMethodDescriptor "(I[B)V" = some ⟨[.int, (.array .byte)], none⟩ := by decide +kernel
theorem pd_28 : parseMethodDescriptor "([BI)C" = some ⟨[(.array .byte), .int], some .char⟩ := by decide +kernel
theorem pn_51 : plainName "java/lang/StringUTF16" = true := by first | (simp [plainName, overriddenIn]; done) | decide +kernel
theorem ef_51 (m : MethodId) (da : Addr) (iv : Int32)  : entryFrame m #[(.ref da), (.int iv)] 2 = mkF m 0 #[.val (.ref da), .val (.int iv)] [] := by first | (simp [entryFrame, mkF, argsToLocals, Value.category]; done) | rfl
def Q51 (Z : State) (da : Addr) (iv : Int32) (fs_ : Value) (kD : ClassId) (zv : Int32) (N : Nat) (g : Nat → Value) (iN lo hi_ nn : Nat) (h0 : Heap) (n0 : Nat) : Option Value → Heap → List Loc → Prop := fun v h L => v = some (.int (Int32.ofNat (lo + 256 * hi_))) ∧ Fr n0 L ∧ h = h0
set_option maxRecDepth 65536 in
set_option maxHeartbeats 40000000 in
theorem rm51 (l : Launch) (Z : State) (a0 : Array Value) (hw : ∀ d ∈ tables_1, d.before a0 Z = true) (ws : List Jvm.Cond) (da : Addr) (iv : Int32) (fs_ : Value) (kD : ClassId) (zv : Int32) (N : Nat) (g : Nat → Value) (iN lo hi_ nn : Nat) (h0 : Heap) (n0 : Nat) (Z0 : n0 ≤ h0.size) (O0 : Old Z n0 h0) (SD : Sta Z Z.heap "java/lang/StringUTF16" "$assertionsDisabled" "Z" (.int (1 : Int32))) (SH : Sta Z Z.heap "java/lang/StringUTF16" "HI_BYTE_SHIFT" "I" (.int (0 : Int32))) (SL : Sta Z Z.heap "java/lang/StringUTF16" "LO_BYTE_SHIFT" "I" (.int (8 : Int32))) (SF : Sta Z Z.heap "jdk/internal/util/Preconditions" "SIOOBE_FORMATTER" "Ljava/util/function/BiFunction;" fs_) (hc_s : fs_.category = 1) (V0 : Arv Z h0 da kD .byte zv (tab N g) (.int (0 : Int32))) (hz : zv = Int32.ofNat N) (hN : N < 2147483648) (hi : iv = Int32.ofNat iN) (hi5 : iN < 500) (hiN : 2 * iN + 1 < N) (hlo : g (2 * iN) = .int (sb lo)) (hhi : g (2 * iN + 1) = .int (sb hi_)) (hl1 : lo < 256) (hl2 : hi_ < 256) (hz2 : (zv >>> ((1 : Int32) &&& 31)) = Int32.ofNat nn) (hin : iN < nn) (hn8 : nn ≤ 8) :
    MetFree l (⟨"java/lang/StringUTF16", "charAt", "([BI)C"⟩ : MethodName) (head1 (Jvm.Cond.code (⟨"java/lang/StringUTF16", "charAt", "([BI)C"⟩ : MethodName) jdk_52_method_83_code 2 (some .char) :: ws) ({ frames := 3, cells := 0, slots := 0, locals := 80 } : Room)) (fun a U => a = #[(.ref da), (.int iv)] ∧ Z.Warmed39 U.vm ∧ U.heap = h0) (fun _ _ _ _ _ => True) (fun _ U o U' => ∃ v L, o = .returned v ∧ (Q51 Z da iv fs_ kD zv N g iN lo hi_ nn h0 n0) v U'.heap L ∧ FrameEnd U o U' L ({ frames := 3, cells := 0, slots := 0, locals := 80 } : Room).cells ({ frames := 3, cells := 0, slots := 0, locals := 80 } : Room).slots) := by
  refine MetFree.of_bodySF (plainFor_of_name pn_51) hisR ?_
  intro p e s m args below meth c s₁ Bd hml0 hP hK
  obtain ⟨rfl, hZ, hh⟩ := hP
  have hx := Bd.exec
  have hby := Bd.bytes
  have hml : c.maxLocals = 2 := hml0
  have hown : s.vm.findClass "java/lang/StringUTF16" = some m.cls := findClass_of_methodNamed Bd.named
  have hnm := (name_of_methodNamed Bd.named Bd.method).1
  have X0 : Stand p l e ({ frames := 3, cells := 0, slots := 0, locals := 80 } : Room) s m #[(.ref da), (.int iv)] below meth c s₁ [] 0 0 := Stand.of_body Bd
  have e0 : s₁.heap = h0 := by rw [← hh, Bd.state]; rfl
  have N0 := Fr.nil n0
  show Own.Fin p e below _ (Own.Post s (Q51 Z da iv fs_ kD zv N g iN lo hi_ nn h0 n0) ({ frames := 3, cells := 0, slots := 0, locals := 80 } : Room).cells ({ frames := 3, cells := 0, slots := 0, locals := 80 } : Room).slots)
  refine Own.start (ef_51 m da iv) ?_
  show Own.Fin p e below (s₁.setTop (mkF m 0 #[.val (.ref da), .val (.int iv)] [])) _
  refine Own.go (fun t k => XS.iloadN X0.here hx rfl (hb hby d51_0) rfl k) ?_
  show Own.Fin p e below (s₁.setTop (mkF m 1 #[.val (.ref da), .val (.int iv)] [(.int iv)])) _
  refine Own.go (fun t k => XS.aloadN X0.here hx rfl (hb hby d51_1) rfl rfl k) ?_
  show Own.Fin p e below (s₁.setTop (mkF m 2 #[.val (.ref da), .val (.int iv)] [(.ref da), (.int iv)])) _
  refine Own.cS X0 hx hZ hown (hw _ (List.mem_of_getElem? (i := 273) rfl)) (hw _ (List.mem_of_getElem? (i := 274) rfl)) (hw _ (List.mem_of_getElem? (i := 225) rfl)) (hw _ (List.mem_of_getElem? (i := 275) rfl)) (by decide) (rm52 l Z a0 hw [] iv da fs_ kD zv N g h0 n0 Z0 O0 SF hc_s V0 (by rw [hi]; exact fun q => absurd ((i_lt iN 0 (by omega) (by decide)).mp q) (by omega)) (by rw [hi, hz2]; exact (i_lt iN nn (by omega) (by omega)).mpr hin)) (by decide) (W := 0) (by decide) (argsL := [(.int iv), (.ref da)]) (rest := []) (by rw [hml]; rfl) (lenOf pd_27 rfl) rfl (Nat.le_of_eq rfl) (hb hby d51_2) e0 (by decide) (by decide) ?_
  intro T1 L1 v1 X1 hQ1
  obtain ⟨rfl, N1q, e1⟩ := hQ1
  have N1 := Fr.app N0 N1q
  show Own.Fin p e below (T1.setTop (mkF m 5 #[.val (.ref da), .val (.int iv)] [])) _
  refine Own.go (fun t k => XS.aloadN X1.here hx rfl (hb hby d51_5) rfl rfl k) ?_
  show Own.Fin p e below (T1.setTop (mkF m 6 #[.val (.ref da), .val (.int iv)] [(.ref da)])) _
  refine Own.go (fun t k => XS.iloadN X1.here hx rfl (hb hby d51_6) rfl k) ?_
  show Own.Fin p e below (T1.setTop (mkF m 7 #[.val (.ref da), .val (.int iv)] [(.int iv), (.ref da)])) _
  refine Own.cS X1 hx hZ hown (hw _ (List.mem_of_getElem? (i := 277) rfl)) (hw _ (List.mem_of_getElem? (i := 278) rfl)) (hw _ (List.mem_of_getElem? (i := 225) rfl)) (hw _ (List.mem_of_getElem? (i := 279) rfl)) (by decide) (rm53 l Z a0 hw [] da iv kD zv N g iN lo hi_ h0 n0 Z0 O0 SD SH SL V0 hz hN hi hi5 hiN hlo hhi hl1 hl2) (by decide) (W := 0) (by decide) (argsL := [(.ref da), (.int iv)]) (rest := []) (by rw [hml]; rfl) (lenOf pd_28 rfl) rfl (Nat.le_of_eq rfl) (hb hby d51_7) e1 (by decide) (by decide) ?_
  intro T2 L2 v2 X2 hQ2
  obtain ⟨rfl, N2q, e2⟩ := hQ2
  have N2 := Fr.app N1 N2q
  show Own.Fin p e below (T2.setTop (mkF m 10 #[.val (.ref da), .val (.int iv)] [(.int (Int32.ofNat (lo + 256 * hi_)))])) _
  refine Own.retN X2 hx Bd.notSynchronized (t := .char) Bd.returns (by simp) (hb hby d51_10) (by decide) (by decide) ?_
  exact ⟨congrArg (fun z => some (Value.int z)) (own_nc (lo + 256 * hi_) (by omega)), N2, e2⟩
theorem d32_0 : decode jdk_42_method_56_code 0 = .ok (.aload_n 0, 1) := by decide +kernel
theorem d32_1 : decode jdk_42_method_56_code 1 = .ok (.invokevirtual 492, 3) := by decide +kernel
theorem d32_4 : decode jdk_42_method_56_code 4 = .ok (.ifCond .eq 12, 3) := by decide +kernel
theorem d32_7 : decode jdk_42_method_56_code 7 = .ok (.aload_n 0, 1) := by decide +kernel
theorem d32_8 : decode jdk_42_method_56_code 8 = .ok (.getfield 9, 3) := by decide +kernel
theorem d32_11 : decode jdk_42_method_56_code 11 = .ok (.iload_n 1, 1) := by decide +kernel
theorem d32_12 : decode jdk_42_method_56_code 12 = .ok (.invokestatic 495, 3) := by decide +kernel
theorem d32_15 : decode jdk_42_method_56_code 15 = .ok (.ireturn, 1) := by decide +kernel
theorem d32_16 : decode jdk_42_method_56_code 16 = .ok (.aload_n 0, 1) := by decide +kernel
theorem d32_17 : decode jdk_42_method_56_code 17 = .ok (.getfield 9, 3) := by decide +kernel
theorem d32_20 : decode jdk_42_method_56_code 20 = .ok (.iload_n 1, 1) := by decide +kernel
theorem d32_21 : decode jdk_42_method_56_code 21 = .ok (.invokestatic 498, 3) := by decide +kernel
theorem d32_24 : decode jdk_42_method_56_code 24 = .ok (.ireturn, 1) := by decide +kernel
theorem pn_32 : plainName "java/lang/String" = true := by first | (simp [plainName, overriddenIn]; done) | decide +kernel
theorem ef_32 (m : MethodId) (ta : Addr) (iv : Int32)  : entryFrame m #[(.ref ta), (.int iv)] 2 = mkF m 0 #[.val (.ref ta), .val (.int iv)] [] := by first | (simp [entryFrame, mkF, argsToLocals, Value.category]; done) | rfl
def Q32 (Z : State) (ta : Addr) (iv : Int32) (cs : Int32) (fs_ : Value) (n iN : Nat) (ch : Nat → Nat) (h0 : Heap) (n0 : Nat) : Option Value → Heap → List Loc → Prop := fun v h L => v = some (.int (Int32.ofNat (ch iN))) ∧ Fr n0 L ∧ h = h0
set_option maxRecDepth 65536 in
set_option maxHeartbeats 40000000 in
theorem rm32 (l : Launch) (Z : State) (a0 : Array Value) (hw : ∀ d ∈ tables_1, d.before a0 Z = true) (ws : List Jvm.Cond) (ta : Addr) (iv : Int32) (cs : Int32) (fs_ : Value) (n iN : Nat) (ch : Nat → Nat) (h0 : Heap) (n0 : Nat) (Z0 : n0 ≤ h0.size) (O0 : Old Z n0 h0) (SC : Sta Z Z.heap "java/lang/String" "COMPACT_STRINGS" "Z" (.int cs)) (SD : Sta Z Z.heap "java/lang/StringUTF16" "$assertionsDisabled" "Z" (.int (1 : Int32))) (SH : Sta Z Z.heap "java/lang/StringUTF16" "HI_BYTE_SHIFT" "I" (.int (0 : Int32))) (SL : Sta Z Z.heap "java/lang/StringUTF16" "LO_BYTE_SHIFT" "I" (.int (8 : Int32))) (SF : Sta Z Z.heap "jdk/internal/util/Preconditions" "SIOOBE_FORMATTER" "Ljava/util/function/BiFunction;" fs_) (hcs : ¬ cs = (0 : Int32)) (hc_s : fs_.category = 1) (hT : STRR Z h0 ta ch n) (hn : n ≤ 8) (hi : iv = Int32.ofNat iN) (hin : iN < n) (hcc : ∀ i < n, ch i < 65536) :
    MetFree l (⟨"java/lang/String", "charAt", "(I)C"⟩ : MethodName) (head1 (Jvm.Cond.code (⟨"java/lang/String", "charAt", "(I)C"⟩ : MethodName) jdk_42_method_56_code 2 (some .char) :: ws) ({ frames := 4, cells := 0, slots := 0, locals := 110 } : Room)) (fun a U => a = #[(.ref ta), (.int iv)] ∧ Z.Warmed39 U.vm ∧ U.heap = h0) (fun _ _ _ _ _ => True) (fun _ U o U' => ∃ v L, o = .returned v ∧ (Q32 Z ta iv cs fs_ n iN ch h0 n0) v U'.heap L ∧ FrameEnd U o U' L ({ frames := 4, cells := 0, slots := 0, locals := 110 } : Room).cells ({ frames := 4, cells := 0, slots := 0, locals := 110 } : Room).slots) := by
  refine MetFree.of_bodySF (plainFor_of_name pn_32) hisR ?_
  intro p e s m args below meth c s₁ Bd hml0 hP hK
  obtain ⟨rfl, hZ, hh⟩ := hP
  have hx := Bd.exec
  have hby := Bd.bytes
  have hml : c.maxLocals = 2 := hml0
  have hown : s.vm.findClass "java/lang/String" = some m.cls := findClass_of_methodNamed Bd.named
  have hnm := (name_of_methodNamed Bd.named Bd.method).1
  have X0 : Stand p l e ({ frames := 4, cells := 0, slots := 0, locals := 110 } : Room) s m #[(.ref ta), (.int iv)] below meth c s₁ [] 0 0 := Stand.of_body Bd
  have e0 : s₁.heap = h0 := by rw [← hh, Bd.state]; rfl
  have N0 := Fr.nil n0
  show Own.Fin p e below _ (Own.Post s (Q32 Z ta iv cs fs_ n iN ch h0 n0) ({ frames := 4, cells := 0, slots := 0, locals := 110 } : Room).cells ({ frames := 4, cells := 0, slots := 0, locals := 110 } : Room).slots)
  refine Own.start (ef_32 m ta iv) ?_
  show Own.Fin p e below (s₁.setTop (mkF m 0 #[.val (.ref ta), .val (.int iv)] [])) _
  obtain ⟨Et, b_, k_, g_, Ft_value, hor⟩ := hT
  rcases hor with ⟨Ft_coder, VA, hA⟩ | ⟨Ft_coder, VA, hU⟩
  · skip
    show Own.Fin p e below (s₁.setTop (mkF m 0 #[.val (.ref ta), .val (.int iv)] [])) _
    refine Own.go (fun t k => XS.aloadN X0.here hx rfl (hb hby d32_0) rfl rfl k) ?_
    show Own.Fin p e below (s₁.setTop (mkF m 1 #[.val (.ref ta), .val (.int iv)] [(.ref ta)])) _
    refine Own.cV X0 hx hZ hown (hw _ (List.mem_of_getElem? (i := 203) rfl)) (hw _ (List.mem_of_getElem? (i := 204) rfl)) (notFace_of_selects (args := #[]) (mvT hZ (hw _ (List.mem_of_getElem? (i := 206) rfl)))) (hw _ (List.mem_of_getElem? (i := 206) rfl)) (hw _ (List.mem_of_getElem? (i := 205) rfl)) (hw _ (List.mem_of_getElem? (i := 9) rfl)) (hw _ (List.mem_of_getElem? (i := 207) rfl)) (by decide) (rm33 l Z a0 hw [] ta cs (0 : Int32) h0 n0 Z0 O0 SC hcs Ft_coder) (by decide) (W := 0) (by decide) (argsL := []) (rest := []) Et (by rw [hml]; rfl) (lenOf pd_12 rfl) rfl (Nat.le_of_eq rfl) (hb hby d32_1) e0 (by decide) (by decide) ?_
    intro T1 L1 v1 X1 hQ1
    obtain ⟨rfl, N1q, e1⟩ := hQ1
    have N1 := Fr.app N0 N1q
    show Own.Fin p e below (T1.setTop (mkF m 4 #[.val (.ref ta), .val (.int iv)] [(.int (F_isl (0 : Int32)))])) _
    have hc4_1 : ¬ ((F_isl (0 : Int32)) = (0 : Int32)) := by decide
    refine Own.go (fun t k => XS.ifNo X1.here hx rfl (hb hby d32_4) rfl ((if0 _ _).trans (feq hc4_1).1) k) ?_
    show Own.Fin p e below (T1.setTop (mkF m 7 #[.val (.ref ta), .val (.int iv)] [])) _
    refine Own.go (fun t k => XS.aloadN X1.here hx rfl (hb hby d32_7) rfl rfl k) ?_
    show Own.Fin p e below (T1.setTop (mkF m 8 #[.val (.ref ta), .val (.int iv)] [(.ref ta)])) _
    obtain ⟨T3, X3, e3, st3⟩ := getF X1 hx hZ hown (host := "") (Or.inl (hw _ (List.mem_of_getElem? (i := 182) rfl))) Via.refl e1 Ft_value (g := (mkF m 8 #[.val (.ref ta), .val (.int iv)] [(.ref ta)])) rfl rfl (hb hby d32_8)
    refine Own.go st3 ?_
    show Own.Fin p e below (T3.setTop (mkF m 11 #[.val (.ref ta), .val (.int iv)] [(.ref b_)])) _
    refine Own.go (fun t k => XS.iloadN X3.here hx rfl (hb hby d32_11) rfl k) ?_
    show Own.Fin p e below (T3.setTop (mkF m 12 #[.val (.ref ta), .val (.int iv)] [(.int iv), (.ref b_)])) _
    refine Own.cS X3 hx hZ hown (hw _ (List.mem_of_getElem? (i := 208) rfl)) (hw _ (List.mem_of_getElem? (i := 209) rfl)) (hw _ (List.mem_of_getElem? (i := 128) rfl)) (hw _ (List.mem_of_getElem? (i := 210) rfl)) (by decide) (rm34 l Z a0 hw [] b_ iv fs_ k_ (Int32.ofNat n) n g_ iN (ch iN) h0 n0 Z0 O0 SF hc_s VA rfl (by omega) hi hin (hA iN hin).1 (hA iN hin).2) (by decide) (W := 0) (by decide) (argsL := [(.ref b_), (.int iv)]) (rest := []) (by rw [hml]; rfl) (lenOf pd_28 rfl) rfl (Nat.le_of_eq rfl) (hb hby d32_12) e3 (by decide) (by decide) ?_
    intro T4 L4 v4 X4 hQ4
    obtain ⟨rfl, N4q, e4⟩ := hQ4
    have N4 := Fr.app N1 N4q
    show Own.Fin p e below (T4.setTop (mkF m 15 #[.val (.ref ta), .val (.int iv)] [(.int (Int32.ofNat (ch iN)))])) _
    refine Own.retN X4 hx Bd.notSynchronized (t := .char) Bd.returns (by simp) (hb hby d32_15) (by decide) (by decide) ?_
    exact ⟨congrArg (fun z => some (Value.int z)) (own_nc (ch iN) (hcc iN hin)), N4, e4⟩
  · skip
    show Own.Fin p e below (s₁.setTop (mkF m 0 #[.val (.ref ta), .val (.int iv)] [])) _
    refine Own.go (fun t k => XS.aloadN X0.here hx rfl (hb hby d32_0) rfl rfl k) ?_
    show Own.Fin p e below (s₁.setTop (mkF m 1 #[.val (.ref ta), .val (.int iv)] [(.ref ta)])) _
    refine Own.cV X0 hx hZ hown (hw _ (List.mem_of_getElem? (i := 203) rfl)) (hw _ (List.mem_of_getElem? (i := 204) rfl)) (notFace_of_selects (args := #[]) (mvT hZ (hw _ (List.mem_of_getElem? (i := 206) rfl)))) (hw _ (List.mem_of_getElem? (i := 206) rfl)) (hw _ (List.mem_of_getElem? (i := 205) rfl)) (hw _ (List.mem_of_getElem? (i := 9) rfl)) (hw _ (List.mem_of_getElem? (i := 207) rfl)) (by decide) (rm33 l Z a0 hw [] ta cs (1 : Int32) h0 n0 Z0 O0 SC hcs Ft_coder) (by decide) (W := 0) (by decide) (argsL := []) (rest := []) Et (by rw [hml]; rfl) (lenOf pd_12 rfl) rfl (Nat.le_of_eq rfl) (hb hby d32_1) e0 (by decide) (by decide) ?_
    intro T5 L5 v5 X5 hQ5
    obtain ⟨rfl, N5q, e5⟩ := hQ5
    have N5 := Fr.app N0 N5q
    show Own.Fin p e below (T5.setTop (mkF m 4 #[.val (.ref ta), .val (.int iv)] [(.int (F_isl (1 : Int32)))])) _
    have hc4_5 : (F_isl (1 : Int32)) = (0 : Int32) := by decide
    refine Own.go (fun t k => XS.ifYes X5.here hx rfl (pc0 := 4) (pc' := 16) rfl (hb hby d32_4) rfl ((if0 _ _).trans (teq hc4_5).1) (by decide) (by decide) k) ?_
    show Own.Fin p e below (T5.setTop (mkF m 16 #[.val (.ref ta), .val (.int iv)] [])) _
    refine Own.go (fun t k => XS.aloadN X5.here hx rfl (hb hby d32_16) rfl rfl k) ?_
    show Own.Fin p e below (T5.setTop (mkF m 17 #[.val (.ref ta), .val (.int iv)] [(.ref ta)])) _
    obtain ⟨T7, X7, e7, st7⟩ := getF X5 hx hZ hown (host := "") (Or.inl (hw _ (List.mem_of_getElem? (i := 182) rfl))) Via.refl e5 Ft_value (g := (mkF m 17 #[.val (.ref ta), .val (.int iv)] [(.ref ta)])) rfl rfl (hb hby d32_17)
    refine Own.go st7 ?_
    show Own.Fin p e below (T7.setTop (mkF m 20 #[.val (.ref ta), .val (.int iv)] [(.ref b_)])) _
    refine Own.go (fun t k => XS.iloadN X7.here hx rfl (hb hby d32_20) rfl k) ?_
    show Own.Fin p e below (T7.setTop (mkF m 21 #[.val (.ref ta), .val (.int iv)] [(.int iv), (.ref b_)])) _
    refine Own.cS X7 hx hZ hown (hw _ (List.mem_of_getElem? (i := 270) rfl)) (hw _ (List.mem_of_getElem? (i := 271) rfl)) (hw _ (List.mem_of_getElem? (i := 225) rfl)) (hw _ (List.mem_of_getElem? (i := 272) rfl)) (by decide) (rm51 l Z a0 hw [] b_ iv fs_ k_ (Int32.ofNat (2 * n)) (2 * n) g_ iN (ch iN % 256) (ch iN / 256) n h0 n0 Z0 O0 SD SH SL SF hc_s VA rfl (by omega) hi (by omega) (by omega) (hU iN hin).1 (hU iN hin).2 (Nat.mod_lt _ (by decide)) (by have := hcc iN hin; omega) (own_len n (by omega)).2.2 hin hn) (by decide) (W := 0) (by decide) (argsL := [(.ref b_), (.int iv)]) (rest := []) (by rw [hml]; rfl) (lenOf pd_28 rfl) rfl (Nat.le_of_eq rfl) (hb hby d32_21) e7 (by decide) (by decide) ?_
    intro T8 L8 v8 X8 hQ8
    obtain ⟨rfl, N8q, e8⟩ := hQ8
    have N8 := Fr.app N5 N8q
    show Own.Fin p e below (T8.setTop (mkF m 24 #[.val (.ref ta), .val (.int iv)] [(.int (Int32.ofNat (ch iN % 256 + 256 * (ch iN / 256))))])) _
    refine Own.retN X8 hx Bd.notSynchronized (t := .char) Bd.returns (by simp) (hb hby d32_24) (by decide) (by decide) ?_
    exact ⟨congrArg (fun z => some (Value.int z)) (own_nc2 (ch iN) (hcc iN hin)), N8, e8⟩
theorem d31_0 : decode method_3_code 0 = .ok (.iload_n 1, 1) := by decide +kernel
theorem d31_1 : decode method_3_code 1 = .ok (.aload_n 0, 1) := by decide +kernel
theorem d31_2 : decode method_3_code 2 = .ok (.invokevirtual 30, 3) := by decide +kernel
theorem d31_5 : decode method_3_code 5 = .ok (.if_icmp .lt 5, 3) := by decide +kernel
theorem d31_8 : decode method_3_code 8 = .ok (.iconst 1, 1) := by decide +kernel
theorem d31_9 : decode method_3_code 9 = .ok (.ireturn, 1) := by decide +kernel
theorem d31_10 : decode method_3_code 10 = .ok (.iload_n 1, 1) := by decide +kernel
theorem d31_11 : decode method_3_code 11 = .ok (.iload 4, 2) := by decide +kernel
theorem d31_13 : decode method_3_code 13 = .ok (.if_icmp .ge 13, 3) := by decide +kernel
theorem d31_16 : decode method_3_code 16 = .ok (.aload_n 2, 1) := by decide +kernel
theorem d31_17 : decode method_3_code 17 = .ok (.iload_n 3, 1) := by decide +kernel
theorem d31_18 : decode method_3_code 18 = .ok (.iload_n 1, 1) := by decide +kernel
theorem d31_19 : decode method_3_code 19 = .ok (.iadd, 1) := by decide +kernel
theorem d31_20 : decode method_3_code 20 = .ok (.caload, 1) := by decide +kernel
theorem d31_21 : decode method_3_code 21 = .ok (.istore 6, 2) := by decide +kernel
theorem d31_23 : decode method_3_code 23 = .ok (.goto 14, 3) := by decide +kernel
theorem d31_26 : decode method_3_code 26 = .ok (.aload_n 2, 1) := by decide +kernel
theorem d31_27 : decode method_3_code 27 = .ok (.iload 5, 2) := by decide +kernel
theorem d31_29 : decode method_3_code 29 = .ok (.iload_n 1, 1) := by decide +kernel
theorem d31_30 : decode method_3_code 30 = .ok (.iadd, 1) := by decide +kernel
theorem d31_31 : decode method_3_code 31 = .ok (.iload 4, 2) := by decide +kernel
theorem d31_33 : decode method_3_code 33 = .ok (.isub, 1) := by decide +kernel
theorem d31_34 : decode method_3_code 34 = .ok (.caload, 1) := by decide +kernel
theorem d31_35 : decode method_3_code 35 = .ok (.istore 6, 2) := by decide +kernel
theorem d31_37 : decode method_3_code 37 = .ok (.aload_n 0, 1) := by decide +kernel
theorem d31_38 : decode method_3_code 38 = .ok (.iload_n 1, 1) := by decide +kernel
theorem d31_39 : decode method_3_code 39 = .ok (.invokevirtual 42, 3) := by decide +kernel
theorem d31_42 : decode method_3_code 42 = .ok (.iload 6, 2) := by decide +kernel
theorem d31_44 : decode method_3_code 44 = .ok (.if_icmp .ne 7, 3) := by decide +kernel
theorem d31_47 : decode method_3_code 47 = .ok (.iconst 1, 1) := by decide +kernel
theorem d31_48 : decode method_3_code 48 = .ok (.goto 4, 3) := by decide +kernel
theorem d31_52 : decode method_3_code 52 = .ok (.ireturn, 1) := by decide +kernel
theorem pd_29 : parseMethodDescriptor "(I)C" = some ⟨[.int], some .char⟩ := by decide +kernel
theorem pn_31 : plainName "com/example/loomwright/loomwright/rule/XmlElementAppendTextPinLaw" = true := by first | (simp [plainName, overriddenIn]; done) | decide +kernel
theorem ef_31 (m : MethodId) (ta : Addr) (p2 : Int32) (ra : Addr) (p4 : Int32) (p5 : Int32) (p6 : Int32)  : entryFrame m #[(.ref ta), (.int p2), (.ref ra), (.int p4), (.int p5), (.int p6)] 7 = mkF m 0 #[.val (.ref ta), .val (.int p2), .val (.ref ra), .val (.int p4), .val (.int p5), .val (.int p6), .unset] [] := by first | (simp [entryFrame, mkF, argsToLocals, Value.category]; done) | rfl
def Q31 (Z : State) (ta : Addr) (p2 : Int32) (ra : Addr) (p4 : Int32) (p5 : Int32) (p6 : Int32) (cs : Int32) (fs_ : Value) (kO : ClassId) (n iN s1 l1 s2 : Nat) (ch cc : Nat → Nat) (h0 : Heap) (n0 : Nat) : Option Value → Heap → List Loc → Prop := fun v h L => v = some (.int (1 : Int32)) ∧ Fr n0 L ∧ h = h0
set_option maxRecDepth 65536 in
set_option maxHeartbeats 40000000 in
theorem rm31 (l : Launch) (Z : State) (a0 : Array Value) (hw : ∀ d ∈ tables_1, d.before a0 Z = true) (ws : List Jvm.Cond) (ta : Addr) (p2 : Int32) (ra : Addr) (p4 : Int32) (p5 : Int32) (p6 : Int32) (cs : Int32) (fs_ : Value) (kO : ClassId) (n iN s1 l1 s2 : Nat) (ch cc : Nat → Nat) (h0 : Heap) (n0 : Nat) (Z0 : n0 ≤ h0.size) (O0 : Old Z n0 h0) (SC : Sta Z Z.heap "java/lang/String" "COMPACT_STRINGS" "Z" (.int cs)) (SD : Sta Z Z.heap "java/lang/StringUTF16" "$assertionsDisabled" "Z" (.int (1 : Int32))) (SH : Sta Z Z.heap "java/lang/StringUTF16" "HI_BYTE_SHIFT" "I" (.int (0 : Int32))) (SL : Sta Z Z.heap "java/lang/StringUTF16" "LO_BYTE_SHIFT" "I" (.int (8 : Int32))) (SF : Sta Z Z.heap "jdk/internal/util/Preconditions" "SIOOBE_FORMATTER" "Ljava/util/function/BiFunction;" fs_) (hcs : ¬ cs = (0 : Int32)) (hc_s : fs_.category = 1) (hT : STRR Z h0 ta ch n) (hn : n ≤ 8) (VO : Arv Z h0 ra kO .char (4 : Int32) (tab 4 (fun i => Value.int (Int32.ofNat (cc i)))) (.int (0 : Int32))) (hp2 : p2 = Int32.ofNat iN) (hi8 : iN < 8) (hp4 : p4 = Int32.ofNat s1) (hp5 : p5 = Int32.ofNat l1) (hp6 : p6 = Int32.ofNat s2) (h1 : s1 + l1 ≤ 4) (h2 : s2 + (n - l1) ≤ 4) (hln : l1 ≤ n) (hcc : ∀ i, cc i < 65536) (hch : ∀ i < n, ch i = if i < l1 then cc (s1 + i) else cc (s2 + (i - l1))) :
    MetFree l (⟨"com/example/loomwright/loomwright/rule/XmlElementAppendTextPinLaw", "at", "(Ljava/lang/String;I[CIII)Z"⟩ : MethodName) (head1 (Jvm.Cond.code (⟨"com/example/loomwright/loomwright/rule/XmlElementAppendTextPinLaw", "at", "(Ljava/lang/String;I[CIII)Z"⟩ : MethodName) method_3_code 7 (some .boolean) :: ws) ({ frames := 5, cells := 0, slots := 0, locals := 130 } : Room)) (fun a U => a = #[(.ref ta), (.int p2), (.ref ra), (.int p4), (.int p5), (.int p6)] ∧ Z.Warmed39 U.vm ∧ U.heap = h0) (fun _ _ _ _ _ => True) (fun _ U o U' => ∃ v L, o = .returned v ∧ (Q31 Z ta p2 ra p4 p5 p6 cs fs_ kO n iN s1 l1 s2 ch cc h0 n0) v U'.heap L ∧ FrameEnd U o U' L ({ frames := 5, cells := 0, slots := 0, locals := 130 } : Room).cells ({ frames := 5, cells := 0, slots := 0, locals := 130 } : Room).slots) := by
  refine MetFree.of_bodySF (plainFor_of_name pn_31) hisR ?_
  intro p e s m args below meth c s₁ Bd hml0 hP hK
  obtain ⟨rfl, hZ, hh⟩ := hP
  have hx := Bd.exec
  have hby := Bd.bytes
  have hml : c.maxLocals = 7 := hml0
  have hown : s.vm.findClass "com/example/loomwright/loomwright/rule/XmlElementAppendTextPinLaw" = some m.cls := findClass_of_methodNamed Bd.named
  have hnm := (name_of_methodNamed Bd.named Bd.method).1
  have X0 : Stand p l e ({ frames := 5, cells := 0, slots := 0, locals := 130 } : Room) s m #[(.ref ta), (.int p2), (.ref ra), (.int p4), (.int p5), (.int p6)] below meth c s₁ [] 0 0 := Stand.of_body Bd
  have e0 : s₁.heap = h0 := by rw [← hh, Bd.state]; rfl
  have N0 := Fr.nil n0
  show Own.Fin p e below _ (Own.Post s (Q31 Z ta p2 ra p4 p5 p6 cs fs_ kO n iN s1 l1 s2 ch cc h0 n0) ({ frames := 5, cells := 0, slots := 0, locals := 130 } : Room).cells ({ frames := 5, cells := 0, slots := 0, locals := 130 } : Room).slots)
  refine Own.start (ef_31 m ta p2 ra p4 p5 p6) ?_
  have Et := hT.1
  show Own.Fin p e below (s₁.setTop (mkF m 0 #[.val (.ref ta), .val (.int p2), .val (.ref ra), .val (.int p4), .val (.int p5), .val (.int p6), .unset] [])) _
  rw [hp2, hp4, hp5, hp6]
  show Own.Fin p e below (s₁.setTop (mkF m 0 #[.val (.ref ta), .val (.int (Int32.ofNat iN)), .val (.ref ra), .val (.int (Int32.ofNat s1)), .val (.int (Int32.ofNat l1)), .val (.int (Int32.ofNat s2)), .unset] [])) _
  refine Own.go (fun t k => XS.iloadN X0.here hx rfl (hb hby d31_0) rfl k) ?_
  show Own.Fin p e below (s₁.setTop (mkF m 1 #[.val (.ref ta), .val (.int (Int32.ofNat iN)), .val (.ref ra), .val (.int (Int32.ofNat s1)), .val (.int (Int32.ofNat l1)), .val (.int (Int32.ofNat s2)), .unset] [(.int (Int32.ofNat iN))])) _
  refine Own.go (fun t k => XS.aloadN X0.here hx rfl (hb hby d31_1) rfl rfl k) ?_
  show Own.Fin p e below (s₁.setTop (mkF m 2 #[.val (.ref ta), .val (.int (Int32.ofNat iN)), .val (.ref ra), .val (.int (Int32.ofNat s1)), .val (.int (Int32.ofNat l1)), .val (.int (Int32.ofNat s2)), .unset] [(.ref ta), (.int (Int32.ofNat iN))])) _
  refine Own.cV X0 hx hZ hown (hw _ (List.mem_of_getElem? (i := 183) rfl)) (hw _ (List.mem_of_getElem? (i := 184) rfl)) (notFace_of_selects (args := #[]) (mvT hZ (hw _ (List.mem_of_getElem? (i := 186) rfl)))) (hw _ (List.mem_of_getElem? (i := 186) rfl)) (hw _ (List.mem_of_getElem? (i := 185) rfl)) (hw _ (List.mem_of_getElem? (i := 9) rfl)) (hw _ (List.mem_of_getElem? (i := 187) rfl)) (by decide) (rm29 l Z a0 hw [] ta cs n ch h0 n0 Z0 O0 SC hcs hT hn) (by decide) (W := 1) (by decide) (argsL := []) (rest := [(.int (Int32.ofNat iN))]) Et (by rw [hml]; rfl) (lenOf pd_11 rfl) rfl (Nat.le_of_eq rfl) (hb hby d31_2) e0 (by decide) (by decide) ?_
  intro T1 L1 v1 X1 hQ1
  obtain ⟨rfl, N1q, e1⟩ := hQ1
  have N1 := Fr.app N0 N1q
  show Own.Fin p e below (T1.setTop (mkF m 5 #[.val (.ref ta), .val (.int (Int32.ofNat iN)), .val (.ref ra), .val (.int (Int32.ofNat s1)), .val (.int (Int32.ofNat l1)), .val (.int (Int32.ofNat s2)), .unset] [(.int (Int32.ofNat n)), (.int (Int32.ofNat iN))])) _
  by_cases hc5_1 : (Int32.ofNat iN) < (Int32.ofNat n)
  · skip
    refine Own.go (fun t k => XS.icmpYes X1.here hx rfl (pc0 := 5) (pc' := 10) rfl (hb hby d31_5) rfl (tlt hc5_1).1 (by decide) (by decide) k) ?_
    show Own.Fin p e below (T1.setTop (mkF m 10 #[.val (.ref ta), .val (.int (Int32.ofNat iN)), .val (.ref ra), .val (.int (Int32.ofNat s1)), .val (.int (Int32.ofNat l1)), .val (.int (Int32.ofNat s2)), .unset] [])) _
    have hin : iN < n := (i_lt _ _ (by omega) (by omega)).mp hc5_1
    refine Own.go (fun t k => XS.iloadN X1.here hx rfl (hb hby d31_10) rfl k) ?_
    show Own.Fin p e below (T1.setTop (mkF m 11 #[.val (.ref ta), .val (.int (Int32.ofNat iN)), .val (.ref ra), .val (.int (Int32.ofNat s1)), .val (.int (Int32.ofNat l1)), .val (.int (Int32.ofNat s2)), .unset] [(.int (Int32.ofNat iN))])) _
    refine Own.go (fun t k => XS.iload X1.here hx rfl (hb hby d31_11) rfl k) ?_
    show Own.Fin p e below (T1.setTop (mkF m 13 #[.val (.ref ta), .val (.int (Int32.ofNat iN)), .val (.ref ra), .val (.int (Int32.ofNat s1)), .val (.int (Int32.ofNat l1)), .val (.int (Int32.ofNat s2)), .unset] [(.int (Int32.ofNat l1)), (.int (Int32.ofNat iN))])) _
    by_cases hc13_2 : (Int32.ofNat iN) < (Int32.ofNat l1)
    · skip
      refine Own.go (fun t k => XS.icmpNo X1.here hx rfl (hb hby d31_13) rfl (tlt hc13_2).2.1 k) ?_
      show Own.Fin p e below (T1.setTop (mkF m 16 #[.val (.ref ta), .val (.int (Int32.ofNat iN)), .val (.ref ra), .val (.int (Int32.ofNat s1)), .val (.int (Int32.ofNat l1)), .val (.int (Int32.ofNat s2)), .unset] [])) _
      have hil : iN < l1 := (i_lt _ _ (by omega) (by omega)).mp hc13_2
      refine Own.go (fun t k => XS.aloadN X1.here hx rfl (hb hby d31_16) rfl rfl k) ?_
      show Own.Fin p e below (T1.setTop (mkF m 17 #[.val (.ref ta), .val (.int (Int32.ofNat iN)), .val (.ref ra), .val (.int (Int32.ofNat s1)), .val (.int (Int32.ofNat l1)), .val (.int (Int32.ofNat s2)), .unset] [(.ref ra)])) _
      refine Own.go (fun t k => XS.iloadN X1.here hx rfl (hb hby d31_17) rfl k) ?_
      show Own.Fin p e below (T1.setTop (mkF m 18 #[.val (.ref ta), .val (.int (Int32.ofNat iN)), .val (.ref ra), .val (.int (Int32.ofNat s1)), .val (.int (Int32.ofNat l1)), .val (.int (Int32.ofNat s2)), .unset] [(.int (Int32.ofNat s1)), (.ref ra)])) _
      refine Own.go (fun t k => XS.iloadN X1.here hx rfl (hb hby d31_18) rfl k) ?_
      show Own.Fin p e below (T1.setTop (mkF m 19 #[.val (.ref ta), .val (.int (Int32.ofNat iN)), .val (.ref ra), .val (.int (Int32.ofNat s1)), .val (.int (Int32.ofNat l1)), .val (.int (Int32.ofNat s2)), .unset] [(.int (Int32.ofNat iN)), (.int (Int32.ofNat s1)), (.ref ra)])) _
      refine Own.go (fun t k => XS.iadd X1.here hx rfl (hb hby d31_19) rfl k) ?_
      show Own.Fin p e below (T1.setTop (mkF m 20 #[.val (.ref ta), .val (.int (Int32.ofNat iN)), .val (.ref ra), .val (.int (Int32.ofNat s1)), .val (.int (Int32.ofNat l1)), .val (.int (Int32.ofNat s2)), .unset] [(.int ((Int32.ofNat s1) + (Int32.ofNat iN))), (.ref ra)])) _
      rw [show ((Int32.ofNat s1) + (Int32.ofNat iN)) = (Int32.ofNat (s1 + iN)) from (Int32.ofNat_add _ _).symm]
      show Own.Fin p e below (T1.setTop (mkF m 20 #[.val (.ref ta), .val (.int (Int32.ofNat iN)), .val (.ref ra), .val (.int (Int32.ofNat s1)), .val (.int (Int32.ofNat l1)), .val (.int (Int32.ofNat s2)), .unset] [(.int (Int32.ofNat (s1 + iN))), (.ref ra)])) _
      refine ldCT (x := (Int32.ofNat (cc (s1 + iN)))) X1 hx hZ e1 VO (hb hby d31_20) rfl (by decide) (s1 + iN) rfl (by omega) rfl ?_
      show Own.Fin p e below (T1.setTop (mkF m 21 #[.val (.ref ta), .val (.int (Int32.ofNat iN)), .val (.ref ra), .val (.int (Int32.ofNat s1)), .val (.int (Int32.ofNat l1)), .val (.int (Int32.ofNat s2)), .unset] [(.int (Int32.ofNat (cc (s1 + iN))))])) _
      refine Own.go (fun t k => XS.istore X1.here hx rfl (hb hby d31_21) rfl (l' := #[.val (.ref ta), .val (.int (Int32.ofNat iN)), .val (.ref ra), .val (.int (Int32.ofNat s1)), .val (.int (Int32.ofNat l1)), .val (.int (Int32.ofNat s2)), .val (.int (Int32.ofNat (cc (s1 + iN))))]) rfl k) ?_
      show Own.Fin p e below (T1.setTop (mkF m 23 #[.val (.ref ta), .val (.int (Int32.ofNat iN)), .val (.ref ra), .val (.int (Int32.ofNat s1)), .val (.int (Int32.ofNat l1)), .val (.int (Int32.ofNat s2)), .val (.int (Int32.ofNat (cc (s1 + iN))))] [])) _
      refine Own.go (fun t k => XS.goto X1.here hx rfl (pc0 := 23) (pc' := 37) rfl (hb hby d31_23) (by decide) (by decide) k) ?_
      show Own.Fin p e below (T1.setTop (mkF m 37 #[.val (.ref ta), .val (.int (Int32.ofNat iN)), .val (.ref ra), .val (.int (Int32.ofNat s1)), .val (.int (Int32.ofNat l1)), .val (.int (Int32.ofNat s2)), .val (.int (Int32.ofNat (cc (s1 + iN))))] [])) _
      refine Own.go (fun t k => XS.aloadN X1.here hx rfl (hb hby d31_37) rfl rfl k) ?_
      show Own.Fin p e below (T1.setTop (mkF m 38 #[.val (.ref ta), .val (.int (Int32.ofNat iN)), .val (.ref ra), .val (.int (Int32.ofNat s1)), .val (.int (Int32.ofNat l1)), .val (.int (Int32.ofNat s2)), .val (.int (Int32.ofNat (cc (s1 + iN))))] [(.ref ta)])) _
      refine Own.go (fun t k => XS.iloadN X1.here hx rfl (hb hby d31_38) rfl k) ?_
      show Own.Fin p e below (T1.setTop (mkF m 39 #[.val (.ref ta), .val (.int (Int32.ofNat iN)), .val (.ref ra), .val (.int (Int32.ofNat s1)), .val (.int (Int32.ofNat l1)), .val (.int (Int32.ofNat s2)), .val (.int (Int32.ofNat (cc (s1 + iN))))] [(.int (Int32.ofNat iN)), (.ref ta)])) _
      refine Own.cV X1 hx hZ hown (hw _ (List.mem_of_getElem? (i := 198) rfl)) (hw _ (List.mem_of_getElem? (i := 199) rfl)) (notFace_of_selects (args := #[]) (mvT hZ (hw _ (List.mem_of_getElem? (i := 201) rfl)))) (hw _ (List.mem_of_getElem? (i := 201) rfl)) (hw _ (List.mem_of_getElem? (i := 200) rfl)) (hw _ (List.mem_of_getElem? (i := 9) rfl)) (hw _ (List.mem_of_getElem? (i := 202) rfl)) (by decide) (rm32 l Z a0 hw [] ta (Int32.ofNat iN) cs fs_ n iN ch h0 n0 Z0 O0 SC SD SH SL SF hcs hc_s hT hn rfl hin (fun i hi => by rw [hch i hi]; split <;> exact hcc _)) (by decide) (W := 0) (by decide) (argsL := [(.int (Int32.ofNat iN))]) (rest := []) Et (by rw [hml]; rfl) (lenOf pd_29 rfl) rfl (Nat.le_of_eq rfl) (hb hby d31_39) e1 (by decide) (by decide) ?_
      intro T4 L4 v4 X4 hQ4
      obtain ⟨rfl, N4q, e4⟩ := hQ4
      have N4 := Fr.app N1 N4q
      show Own.Fin p e below (T4.setTop (mkF m 42 #[.val (.ref ta), .val (.int (Int32.ofNat iN)), .val (.ref ra), .val (.int (Int32.ofNat s1)), .val (.int (Int32.ofNat l1)), .val (.int (Int32.ofNat s2)), .val (.int (Int32.ofNat (cc (s1 + iN))))] [(.int (Int32.ofNat (ch iN)))])) _
      refine Own.go (fun t k => XS.iload X4.here hx rfl (hb hby d31_42) rfl k) ?_
      show Own.Fin p e below (T4.setTop (mkF m 44 #[.val (.ref ta), .val (.int (Int32.ofNat iN)), .val (.ref ra), .val (.int (Int32.ofNat s1)), .val (.int (Int32.ofNat l1)), .val (.int (Int32.ofNat s2)), .val (.int (Int32.ofNat (cc (s1 + iN))))] [(.int (Int32.ofNat (cc (s1 + iN)))), (.int (Int32.ofNat (ch iN)))])) _
      have hc44_4 : (Int32.ofNat (ch iN)) = (Int32.ofNat (cc (s1 + iN))) := by rw [hch iN hin, if_pos hil]
      refine Own.go (fun t k => XS.icmpNo X4.here hx rfl (hb hby d31_44) rfl (teq hc44_4).2 k) ?_
      show Own.Fin p e below (T4.setTop (mkF m 47 #[.val (.ref ta), .val (.int (Int32.ofNat iN)), .val (.ref ra), .val (.int (Int32.ofNat s1)), .val (.int (Int32.ofNat l1)), .val (.int (Int32.ofNat s2)), .val (.int (Int32.ofNat (cc (s1 + iN))))] [])) _
      refine Own.go (fun t k => XS.iconst X4.here hx rfl (hb hby d31_47) k) ?_
      show Own.Fin p e below (T4.setTop (mkF m 48 #[.val (.ref ta), .val (.int (Int32.ofNat iN)), .val (.ref ra), .val (.int (Int32.ofNat s1)), .val (.int (Int32.ofNat l1)), .val (.int (Int32.ofNat s2)), .val (.int (Int32.ofNat (cc (s1 + iN))))] [(.int (1 : Int32))])) _
      refine Own.go (fun t k => XS.goto X4.here hx rfl (pc0 := 48) (pc' := 52) rfl (hb hby d31_48) (by decide) (by decide) k) ?_
      show Own.Fin p e below (T4.setTop (mkF m 52 #[.val (.ref ta), .val (.int (Int32.ofNat iN)), .val (.ref ra), .val (.int (Int32.ofNat s1)), .val (.int (Int32.ofNat l1)), .val (.int (Int32.ofNat s2)), .val (.int (Int32.ofNat (cc (s1 + iN))))] [(.int (1 : Int32))])) _
      refine Own.retN X4 hx Bd.notSynchronized (t := .boolean) Bd.returns (by simp) (hb hby d31_52) (by decide) (by decide) ?_
      exact ⟨rfl, N4, e4⟩
    · skip
      refine Own.go (fun t k => XS.icmpYes X1.here hx rfl (pc0 := 13) (pc' := 26) rfl (hb hby d31_13) rfl (flt hc13_2).2.1 (by decide) (by decide) k) ?_
      show Own.Fin p e below (T1.setTop (mkF m 26 #[.val (.ref ta), .val (.int (Int32.ofNat iN)), .val (.ref ra), .val (.int (Int32.ofNat s1)), .val (.int (Int32.ofNat l1)), .val (.int (Int32.ofNat s2)), .unset] [])) _
      have hil : ¬ iN < l1 := fun q => hc13_2 ((i_lt _ _ (by omega) (by omega)).mpr q)
      refine Own.go (fun t k => XS.aloadN X1.here hx rfl (hb hby d31_26) rfl rfl k) ?_
      show Own.Fin p e below (T1.setTop (mkF m 27 #[.val (.ref ta), .val (.int (Int32.ofNat iN)), .val (.ref ra), .val (.int (Int32.ofNat s1)), .val (.int (Int32.ofNat l1)), .val (.int (Int32.ofNat s2)), .unset] [(.ref ra)])) _
      refine Own.go (fun t k => XS.iload X1.here hx rfl (hb hby d31_27) rfl k) ?_
      show Own.Fin p e below (T1.setTop (mkF m 29 #[.val (.ref ta), .val (.int (Int32.ofNat iN)), .val (.ref ra), .val (.int (Int32.ofNat s1)), .val (.int (Int32.ofNat l1)), .val (.int (Int32.ofNat s2)), .unset] [(.int (Int32.ofNat s2)), (.ref ra)])) _
      refine Own.go (fun t k => XS.iloadN X1.here hx rfl (hb hby d31_29) rfl k) ?_
      show Own.Fin p e below (T1.setTop (mkF m 30 #[.val (.ref ta), .val (.int (Int32.ofNat iN)), .val (.ref ra), .val (.int (Int32.ofNat s1)), .val (.int (Int32.ofNat l1)), .val (.int (Int32.ofNat s2)), .unset] [(.int (Int32.ofNat iN)), (.int (Int32.ofNat s2)), (.ref ra)])) _
      refine Own.go (fun t k => XS.iadd X1.here hx rfl (hb hby d31_30) rfl k) ?_
      show Own.Fin p e below (T1.setTop (mkF m 31 #[.val (.ref ta), .val (.int (Int32.ofNat iN)), .val (.ref ra), .val (.int (Int32.ofNat s1)), .val (.int (Int32.ofNat l1)), .val (.int (Int32.ofNat s2)), .unset] [(.int ((Int32.ofNat s2) + (Int32.ofNat iN))), (.ref ra)])) _
      refine Own.go (fun t k => XS.iload X1.here hx rfl (hb hby d31_31) rfl k) ?_
      show Own.Fin p e below (T1.setTop (mkF m 33 #[.val (.ref ta), .val (.int (Int32.ofNat iN)), .val (.ref ra), .val (.int (Int32.ofNat s1)), .val (.int (Int32.ofNat l1)), .val (.int (Int32.ofNat s2)), .unset] [(.int (Int32.ofNat l1)), (.int ((Int32.ofNat s2) + (Int32.ofNat iN))), (.ref ra)])) _
      refine Own.go (fun t k => XS.isub X1.here hx rfl (hb hby d31_33) rfl k) ?_
      show Own.Fin p e below (T1.setTop (mkF m 34 #[.val (.ref ta), .val (.int (Int32.ofNat iN)), .val (.ref ra), .val (.int (Int32.ofNat s1)), .val (.int (Int32.ofNat l1)), .val (.int (Int32.ofNat s2)), .unset] [(.int (((Int32.ofNat s2) + (Int32.ofNat iN)) - (Int32.ofNat l1))), (.ref ra)])) _
      rw [show (((Int32.ofNat s2) + (Int32.ofNat iN)) - (Int32.ofNat l1)) = (Int32.ofNat (s2 + (iN - l1))) from (by rw [← Int32.ofNat_add, ← Int32.ofNat_sub _ _ (by omega)]; congr 1; omega)]
      show Own.Fin p e below (T1.setTop (mkF m 34 #[.val (.ref ta), .val (.int (Int32.ofNat iN)), .val (.ref ra), .val (.int (Int32.ofNat s1)), .val (.int (Int32.ofNat l1)), .val (.int (Int32.ofNat s2)), .unset] [(.int (Int32.ofNat (s2 + (iN - l1)))), (.ref ra)])) _
      refine ldCT (x := (Int32.ofNat (cc (s2 + (iN - l1))))) X1 hx hZ e1 VO (hb hby d31_34) rfl (by decide) (s2 + (iN - l1)) rfl (by omega) rfl ?_
      show Own.Fin p e below (T1.setTop (mkF m 35 #[.val (.ref ta), .val (.int (Int32.ofNat iN)), .val (.ref ra), .val (.int (Int32.ofNat s1)), .val (.int (Int32.ofNat l1)), .val (.int (Int32.ofNat s2)), .unset] [(.int (Int32.ofNat (cc (s2 + (iN - l1)))))])) _
      refine Own.go (fun t k => XS.istore X1.here hx rfl (hb hby d31_35) rfl (l' := #[.val (.ref ta), .val (.int (Int32.ofNat iN)), .val (.ref ra), .val (.int (Int32.ofNat s1)), .val (.int (Int32.ofNat l1)), .val (.int (Int32.ofNat s2)), .val (.int (Int32.ofNat (cc (s2 + (iN - l1)))))]) rfl k) ?_
      show Own.Fin p e below (T1.setTop (mkF m 37 #[.val (.ref ta), .val (.int (Int32.ofNat iN)), .val (.ref ra), .val (.int (Int32.ofNat s1)), .val (.int (Int32.ofNat l1)), .val (.int (Int32.ofNat s2)), .val (.int (Int32.ofNat (cc (s2 + (iN - l1)))))] [])) _
      refine Own.go (fun t k => XS.aloadN X1.here hx rfl (hb hby d31_37) rfl rfl k) ?_
      show Own.Fin p e below (T1.setTop (mkF m 38 #[.val (.ref ta), .val (.int (Int32.ofNat iN)), .val (.ref ra), .val (.int (Int32.ofNat s1)), .val (.int (Int32.ofNat l1)), .val (.int (Int32.ofNat s2)), .val (.int (Int32.ofNat (cc (s2 + (iN - l1)))))] [(.ref ta)])) _
      refine Own.go (fun t k => XS.iloadN X1.here hx rfl (hb hby d31_38) rfl k) ?_
      show Own.Fin p e below (T1.setTop (mkF m 39 #[.val (.ref ta), .val (.int (Int32.ofNat iN)), .val (.ref ra), .val (.int (Int32.ofNat s1)), .val (.int (Int32.ofNat l1)), .val (.int (Int32.ofNat s2)), .val (.int (Int32.ofNat (cc (s2 + (iN - l1)))))] [(.int (Int32.ofNat iN)), (.ref ta)])) _
      refine Own.cV X1 hx hZ hown (hw _ (List.mem_of_getElem? (i := 198) rfl)) (hw _ (List.mem_of_getElem? (i := 199) rfl)) (notFace_of_selects (args := #[]) (mvT hZ (hw _ (List.mem_of_getElem? (i := 201) rfl)))) (hw _ (List.mem_of_getElem? (i := 201) rfl)) (hw _ (List.mem_of_getElem? (i := 200) rfl)) (hw _ (List.mem_of_getElem? (i := 9) rfl)) (hw _ (List.mem_of_getElem? (i := 202) rfl)) (by decide) (rm32 l Z a0 hw [] ta (Int32.ofNat iN) cs fs_ n iN ch h0 n0 Z0 O0 SC SD SH SL SF hcs hc_s hT hn rfl hin (fun i hi => by rw [hch i hi]; split <;> exact hcc _)) (by decide) (W := 0) (by decide) (argsL := [(.int (Int32.ofNat iN))]) (rest := []) Et (by rw [hml]; rfl) (lenOf pd_29 rfl) rfl (Nat.le_of_eq rfl) (hb hby d31_39) e1 (by decide) (by decide) ?_
      intro T6 L6 v6 X6 hQ6
      obtain ⟨rfl, N6q, e6⟩ := hQ6
      have N6 := Fr.app N1 N6q
      show Own.Fin p e below (T6.setTop (mkF m 42 #[.val (.ref ta), .val (.int (Int32.ofNat iN)), .val (.ref ra), .val (.int (Int32.ofNat s1)), .val (.int (Int32.ofNat l1)), .val (.int (Int32.ofNat s2)), .val (.int (Int32.ofNat (cc (s2 + (iN - l1)))))] [(.int (Int32.ofNat (ch iN)))])) _
      refine Own.go (fun t k => XS.iload X6.here hx rfl (hb hby d31_42) rfl k) ?_
      show Own.Fin p e below (T6.setTop (mkF m 44 #[.val (.ref ta), .val (.int (Int32.ofNat iN)), .val (.ref ra), .val (.int (Int32.ofNat s1)), .val (.int (Int32.ofNat l1)), .val (.int (Int32.ofNat s2)), .val (.int (Int32.ofNat (cc (s2 + (iN - l1)))))] [(.int (Int32.ofNat (cc (s2 + (iN - l1))))), (.int (Int32.ofNat (ch iN)))])) _
      have hc44_6 : (Int32.ofNat (ch iN)) = (Int32.ofNat (cc (s2 + (iN - l1)))) := by rw [hch iN hin, if_neg hil]
      refine Own.go (fun t k => XS.icmpNo X6.here hx rfl (hb hby d31_44) rfl (teq hc44_6).2 k) ?_
      show Own.Fin p e below (T6.setTop (mkF m 47 #[.val (.ref ta), .val (.int (Int32.ofNat iN)), .val (.ref ra), .val (.int (Int32.ofNat s1)), .val (.int (Int32.ofNat l1)), .val (.int (Int32.ofNat s2)), .val (.int (Int32.ofNat (cc (s2 + (iN - l1)))))] [])) _
      refine Own.go (fun t k => XS.iconst X6.here hx rfl (hb hby d31_47) k) ?_
      show Own.Fin p e below (T6.setTop (mkF m 48 #[.val (.ref ta), .val (.int (Int32.ofNat iN)), .val (.ref ra), .val (.int (Int32.ofNat s1)), .val (.int (Int32.ofNat l1)), .val (.int (Int32.ofNat s2)), .val (.int (Int32.ofNat (cc (s2 + (iN - l1)))))] [(.int (1 : Int32))])) _
      refine Own.go (fun t k => XS.goto X6.here hx rfl (pc0 := 48) (pc' := 52) rfl (hb hby d31_48) (by decide) (by decide) k) ?_
      show Own.Fin p e below (T6.setTop (mkF m 52 #[.val (.ref ta), .val (.int (Int32.ofNat iN)), .val (.ref ra), .val (.int (Int32.ofNat s1)), .val (.int (Int32.ofNat l1)), .val (.int (Int32.ofNat s2)), .val (.int (Int32.ofNat (cc (s2 + (iN - l1)))))] [(.int (1 : Int32))])) _
      refine Own.retN X6 hx Bd.notSynchronized (t := .boolean) Bd.returns (by simp) (hb hby d31_52) (by decide) (by decide) ?_
      exact ⟨rfl, N6, e6⟩
  · skip
    refine Own.go (fun t k => XS.icmpNo X1.here hx rfl (hb hby d31_5) rfl (flt hc5_1).1 k) ?_
    show Own.Fin p e below (T1.setTop (mkF m 8 #[.val (.ref ta), .val (.int (Int32.ofNat iN)), .val (.ref ra), .val (.int (Int32.ofNat s1)), .val (.int (Int32.ofNat l1)), .val (.int (Int32.ofNat s2)), .unset] [])) _
    refine Own.go (fun t k => XS.iconst X1.here hx rfl (hb hby d31_8) k) ?_
    show Own.Fin p e below (T1.setTop (mkF m 9 #[.val (.ref ta), .val (.int (Int32.ofNat iN)), .val (.ref ra), .val (.int (Int32.ofNat s1)), .val (.int (Int32.ofNat l1)), .val (.int (Int32.ofNat s2)), .unset] [(.int (1 : Int32))])) _
    refine Own.retN X1 hx Bd.notSynchronized (t := .boolean) Bd.returns (by simp) (hb hby d31_9) (by decide) (by decide) ?_
    exact ⟨rfl, N1, e1⟩
theorem d2_0 : decode jdk_30_method_1_code 0 = .ok (.aload_n 0, 1) := by decide +kernel
theorem d2_1 : decode jdk_30_method_1_code 1 = .ok (.invokespecial 1, 3) := by decide +kernel
theorem d2_4 : decode jdk_30_method_1_code 4 = .ok (.return_, 1) := by decide +kernel
theorem pn_2 : plainName "java/lang/Record" = true := by first | (simp [plainName, overriddenIn]; done) | decide +kernel
theorem ef_2 (m : MethodId) (xa : Addr)  : entryFrame m #[(.ref xa)] 1 = mkF m 0 #[.val (.ref xa)] [] := by first | (simp [entryFrame, mkF, argsToLocals, Value.category]; done) | rfl
def Q2 (Z : State) (xa : Addr)  (h0 : Heap) (n0 : Nat) : Option Value → Heap → List Loc → Prop := fun v h L => v = none ∧ Fr n0 L ∧ h = h0
set_option maxRecDepth 65536 in
set_option maxHeartbeats 40000000 in
theorem rm2 (l : Launch) (Z : State) (a0 : Array Value) (hw : ∀ d ∈ tables_1, d.before a0 Z = true) (ws : List Jvm.Cond) (xa : Addr)  (h0 : Heap) (n0 : Nat) (Z0 : n0 ≤ h0.size)  :
    MetFree l (⟨"java/lang/Record", "<init>", "()V"⟩ : MethodName) (head1 (Jvm.Cond.code (⟨"java/lang/Record", "<init>", "()V"⟩ : MethodName) jdk_30_method_1_code 1 none :: ws) ({ frames := 1, cells := 0, slots := 0, locals := 12 } : Room)) (fun a U => a = #[(.ref xa)] ∧ Z.Warmed39 U.vm ∧ U.heap = h0) (fun _ _ _ _ _ => True) (fun _ U o U' => ∃ v L, o = .returned v ∧ (Q2 Z xa h0 n0) v U'.heap L ∧ FrameEnd U o U' L ({ frames := 1, cells := 0, slots := 0, locals := 12 } : Room).cells ({ frames := 1, cells := 0, slots := 0, locals := 12 } : Room).slots) := by
  refine MetFree.of_bodySF (plainFor_of_name pn_2) hisR ?_
  intro p e s m args below meth c s₁ Bd hml0 hP hK
  obtain ⟨rfl, hZ, hh⟩ := hP
  have hx := Bd.exec
  have hby := Bd.bytes
  have hml : c.maxLocals = 1 := hml0
  have hown : s.vm.findClass "java/lang/Record" = some m.cls := findClass_of_methodNamed Bd.named
  have hnm := (name_of_methodNamed Bd.named Bd.method).1
  have X0 : Stand p l e ({ frames := 1, cells := 0, slots := 0, locals := 12 } : Room) s m #[(.ref xa)] below meth c s₁ [] 0 0 := Stand.of_body Bd
  have e0 : s₁.heap = h0 := by rw [← hh, Bd.state]; rfl
  have N0 := Fr.nil n0
  show Own.Fin p e below _ (Own.Post s (Q2 Z xa h0 n0) ({ frames := 1, cells := 0, slots := 0, locals := 12 } : Room).cells ({ frames := 1, cells := 0, slots := 0, locals := 12 } : Room).slots)
  refine Own.start (ef_2 m xa) ?_
  show Own.Fin p e below (s₁.setTop (mkF m 0 #[.val (.ref xa)] [])) _
  refine Own.go (fun t k => XS.aloadN X0.here hx rfl (hb hby d2_0) rfl rfl k) ?_
  show Own.Fin p e below (s₁.setTop (mkF m 1 #[.val (.ref xa)] [(.ref xa)])) _
  obtain ⟨T1, X1, e1, st1⟩ := initO X0 hx hZ hown (hw _ (List.mem_of_getElem? (i := 24) rfl)) (hw _ (List.mem_of_getElem? (i := 25) rfl)) (hw _ (List.mem_of_getElem? (i := 26) rfl)) e0 (g := (mkF m 1 #[.val (.ref xa)] [(.ref xa)])) rfl (by rw [hml]; rfl) rfl (hb hby d2_1) (by decide) (W := 0) (by show 2 * 0 + _ ≤ _; exact Nat.le_of_eq rfl) (by decide)
  refine Own.go st1 ?_
  show Own.Fin p e below (T1.setTop (mkF m 4 #[.val (.ref xa)] [])) _
  refine Own.retV X1 hx Bd.notSynchronized Bd.returns (hb hby d2_4) (by decide) (by decide) ?_
  exact ⟨rfl, N0, e1⟩
theorem d7_0 : decode jdk_22_method_1_code 0 = .ok (.aload_n 0, 1) := by decide +kernel
theorem d7_1 : decode jdk_22_method_1_code 1 = .ok (.invokespecial 1, 3) := by decide +kernel
theorem d7_4 : decode jdk_22_method_1_code 4 = .ok (.return_, 1) := by decide +kernel
theorem pn_7 : plainName "java/util/AbstractCollection" = true := by first | (simp [plainName, overriddenIn]; done) | decide +kernel
theorem ef_7 (m : MethodId) (xa : Addr)  : entryFrame m #[(.ref xa)] 1 = mkF m 0 #[.val (.ref xa)] [] := by first | (simp [entryFrame, mkF, argsToLocals, Value.category]; done) | rfl
def Q7 (Z : State) (xa : Addr)  (h0 : Heap) (n0 : Nat) : Option Value → Heap → List Loc → Prop := fun v h L => v = none ∧ Fr n0 L ∧ h = h0
set_option maxRecDepth 65536 in
set_option maxHeartbeats 40000000 in
theorem rm7 (l : Launch) (Z : State) (a0 : Array Value) (hw : ∀ d ∈ tables_1, d.before a0 Z = true) (ws : List Jvm.Cond) (xa : Addr)  (h0 : Heap) (n0 : Nat) (Z0 : n0 ≤ h0.size)  :
    MetFree l (⟨"java/util/AbstractCollection", "<init>", "()V"⟩ : MethodName) (head1 (Jvm.Cond.code (⟨"java/util/AbstractCollection", "<init>", "()V"⟩ : MethodName) jdk_22_method_1_code 1 none :: ws) ({ frames := 1, cells := 0, slots := 0, locals := 12 } : Room)) (fun a U => a = #[(.ref xa)] ∧ Z.Warmed39 U.vm ∧ U.heap = h0) (fun _ _ _ _ _ => True) (fun _ U o U' => ∃ v L, o = .returned v ∧ (Q7 Z xa h0 n0) v U'.heap L ∧ FrameEnd U o U' L ({ frames := 1, cells := 0, slots := 0, locals := 12 } : Room).cells ({ frames := 1, cells := 0, slots := 0, locals := 12 } : Room).slots) := by
  refine MetFree.of_bodySF (plainFor_of_name pn_7) hisR ?_
  intro p e s m args below meth c s₁ Bd hml0 hP hK
  obtain ⟨rfl, hZ, hh⟩ := hP
  have hx := Bd.exec
  have hby := Bd.bytes
  have hml : c.maxLocals = 1 := hml0
  have hown : s.vm.findClass "java/util/AbstractCollection" = some m.cls := findClass_of_methodNamed Bd.named
  have hnm := (name_of_methodNamed Bd.named Bd.method).1
  have X0 : Stand p l e ({ frames := 1, cells := 0, slots := 0, locals := 12 } : Room) s m #[(.ref xa)] below meth c s₁ [] 0 0 := Stand.of_body Bd
  have e0 : s₁.heap = h0 := by rw [← hh, Bd.state]; rfl
  have N0 := Fr.nil n0
  show Own.Fin p e below _ (Own.Post s (Q7 Z xa h0 n0) ({ frames := 1, cells := 0, slots := 0, locals := 12 } : Room).cells ({ frames := 1, cells := 0, slots := 0, locals := 12 } : Room).slots)
  refine Own.start (ef_7 m xa) ?_
  show Own.Fin p e below (s₁.setTop (mkF m 0 #[.val (.ref xa)] [])) _
  refine Own.go (fun t k => XS.aloadN X0.here hx rfl (hb hby d7_0) rfl rfl k) ?_
  show Own.Fin p e below (s₁.setTop (mkF m 1 #[.val (.ref xa)] [(.ref xa)])) _
  obtain ⟨T1, X1, e1, st1⟩ := initO X0 hx hZ hown (hw _ (List.mem_of_getElem? (i := 54) rfl)) (hw _ (List.mem_of_getElem? (i := 25) rfl)) (hw _ (List.mem_of_getElem? (i := 26) rfl)) e0 (g := (mkF m 1 #[.val (.ref xa)] [(.ref xa)])) rfl (by rw [hml]; rfl) rfl (hb hby d7_1) (by decide) (W := 0) (by show 2 * 0 + _ ≤ _; exact Nat.le_of_eq rfl) (by decide)
  refine Own.go st1 ?_
  show Own.Fin p e below (T1.setTop (mkF m 4 #[.val (.ref xa)] [])) _
  refine Own.retV X1 hx Bd.notSynchronized Bd.returns (hb hby d7_4) (by decide) (by decide) ?_
  exact ⟨rfl, N0, e1⟩
theorem d1_0 : decode prog_60_method_1_code 0 = .ok (.aload_n 0, 1) := by decide +kernel
theorem d1_1 : decode prog_60_method_1_code 1 = .ok (.invokespecial 1, 3) := by decide +kernel
theorem d1_4 : decode prog_60_method_1_code 4 = .ok (.aload_n 0, 1) := by decide +kernel
theorem d1_5 : decode prog_60_method_1_code 5 = .ok (.aload_n 1, 1) := by decide +kernel
theorem d1_6 : decode prog_60_method_1_code 6 = .ok (.putfield 7, 3) := by decide +kernel
theorem d1_9 : decode prog_60_method_1_code 9 = .ok (.aload_n 0, 1) := by decide +kernel
theorem d1_10 : decode prog_60_method_1_code 10 = .ok (.iload_n 2, 1) := by decide +kernel
theorem d1_11 : decode prog_60_method_1_code 11 = .ok (.putfield 13, 3) := by decide +kernel
theorem d1_14 : decode prog_60_method_1_code 14 = .ok (.return_, 1) := by decide +kernel
theorem pn_1 : plainName "com/example/loomwright/loomwright/config/Location" = true := by first | (simp [plainName, overriddenIn]; done) | decide +kernel
theorem ef_1 (m : MethodId) (xa : Addr) (fa : Addr) (p3 : Int32)  : entryFrame m #[(.ref xa), (.ref fa), (.int p3)] 3 = mkF m 0 #[.val (.ref xa), .val (.ref fa), .val (.int p3)] [] := by first | (simp [entryFrame, mkF, argsToLocals, Value.category]; done) | rfl
def Q1 (Z : State) (xa : Addr) (fa : Addr) (p3 : Int32)  (h0 : Heap) (n0 : Nat) : Option Value → Heap → List Loc → Prop := fun v h L => v = none ∧ Fr n0 L ∧ Keep h0 h [xa]
set_option maxRecDepth 65536 in
set_option maxHeartbeats 40000000 in
theorem rm1 (l : Launch) (Z : State) (a0 : Array Value) (hw : ∀ d ∈ tables_1, d.before a0 Z = true) (ws : List Jvm.Cond) (xa : Addr) (fa : Addr) (p3 : Int32)  (h0 : Heap) (n0 : Nat) (Z0 : n0 ≤ h0.size) (E0 : Exa Z h0 xa "com/example/loomwright/loomwright/config/Location") (F_file : Fld Z h0 xa "com/example/loomwright/loomwright/config/Location" "file" "Ljava/lang/String;" .null) (F_line : Fld Z h0 xa "com/example/loomwright/loomwright/config/Location" "line" "I" (.int (0 : Int32))) (gx : n0 ≤ xa) :
    MetFree l (⟨"com/example/loomwright/loomwright/config/Location", "<init>", "(Ljava/lang/String;I)V"⟩ : MethodName) (head1 (Jvm.Cond.code (⟨"com/example/loomwright/loomwright/config/Location", "<init>", "(Ljava/lang/String;I)V"⟩ : MethodName) prog_60_method_1_code 3 none :: ws) ({ frames := 2, cells := 0, slots := 0, locals := 40 } : Room)) (fun a U => a = #[(.ref xa), (.ref fa), (.int p3)] ∧ Z.Warmed39 U.vm ∧ U.heap = h0) (fun _ _ _ _ _ => True) (fun _ U o U' => ∃ v L, o = .returned v ∧ (Q1 Z xa fa p3 h0 n0) v U'.heap L ∧ FrameEnd U o U' L ({ frames := 2, cells := 0, slots := 0, locals := 40 } : Room).cells ({ frames := 2, cells := 0, slots := 0, locals := 40 } : Room).slots) := by
  refine MetFree.of_bodySF (plainFor_of_name pn_1) hisR ?_
  intro p e s m args below meth c s₁ Bd hml0 hP hK
  obtain ⟨rfl, hZ, hh⟩ := hP
  have hx := Bd.exec
  have hby := Bd.bytes
  have hml : c.maxLocals = 3 := hml0
  have hown : s.vm.findClass "com/example/loomwright/loomwright/config/Location" = some m.cls := findClass_of_methodNamed Bd.named
  have hnm := (name_of_methodNamed Bd.named Bd.method).1
  have X0 : Stand p l e ({ frames := 2, cells := 0, slots := 0, locals := 40 } : Room) s m #[(.ref xa), (.ref fa), (.int p3)] below meth c s₁ [] 0 0 := Stand.of_body Bd
  have e0 : s₁.heap = h0 := by rw [← hh, Bd.state]; rfl
  have N0 := Fr.nil n0
  show Own.Fin p e below _ (Own.Post s (Q1 Z xa fa p3 h0 n0) ({ frames := 2, cells := 0, slots := 0, locals := 40 } : Room).cells ({ frames := 2, cells := 0, slots := 0, locals := 40 } : Room).slots)
  refine Own.start (ef_1 m xa fa p3) ?_
  show Own.Fin p e below (s₁.setTop (mkF m 0 #[.val (.ref xa), .val (.ref fa), .val (.int p3)] [])) _
  refine Own.go (fun t k => XS.aloadN X0.here hx rfl (hb hby d1_0) rfl rfl k) ?_
  show Own.Fin p e below (s₁.setTop (mkF m 1 #[.val (.ref xa), .val (.ref fa), .val (.int p3)] [(.ref xa)])) _
  refine Own.cI X0 hx hZ rfl hown (hw _ (List.mem_of_getElem? (i := 19) rfl)) (hw _ (List.mem_of_getElem? (i := 20) rfl)) (hw _ (List.mem_of_getElem? (i := 22) rfl)) (hw _ (List.mem_of_getElem? (i := 23) rfl)) (by decide) (rm2 l Z a0 hw [] xa h0 n0 Z0 ) (by decide) (W := 0) (by decide) (argsL := []) (rest := []) (by rw [hml]; rfl) (lenOf pd_15 rfl) rfl (Nat.le_of_eq rfl) (hb hby d1_1) e0 (by decide) (by decide) ?_
  intro T1 L1 v1 X1 hQ1
  obtain ⟨rfl, N1q, e1⟩ := hQ1
  have N1 := Fr.app N0 N1q
  show Own.Fin p e below (T1.setTop (mkF m 4 #[.val (.ref xa), .val (.ref fa), .val (.int p3)] [])) _
  refine Own.go (fun t k => XS.aloadN X1.here hx rfl (hb hby d1_4) rfl rfl k) ?_
  show Own.Fin p e below (T1.setTop (mkF m 5 #[.val (.ref xa), .val (.ref fa), .val (.int p3)] [(.ref xa)])) _
  refine Own.go (fun t k => XS.aloadN X1.here hx rfl (hb hby d1_5) rfl rfl k) ?_
  show Own.Fin p e below (T1.setTop (mkF m 6 #[.val (.ref xa), .val (.ref fa), .val (.int p3)] [(.ref fa), (.ref xa)])) _
  obtain ⟨T2, h2, X2, e2, W2, st2⟩ := putF X1 hx hZ hown (host := "") (Or.inl (hw _ (List.mem_of_getElem? (i := 27) rfl))) Via.refl e1 F_file E0 (Or.inr ⟨(hw _ (List.mem_of_getElem? (i := 28) rfl)), rfl, hnm⟩) (hw _ (List.mem_of_getElem? (i := 6) rfl)) (ty := (.object "java/lang/String")) (by decide) rfl rfl (g := (mkF m 6 #[.val (.ref xa), .val (.ref fa), .val (.int p3)] [(.ref fa), (.ref xa)])) rfl rfl (hb hby d1_6)
  refine Own.go st2 ?_
  have f3 := F_file.same W2
  have N2 := Fr.snoc X2 N1 gx
  have Z2 : n0 ≤ h2.size := by rw [W2.size]; exact Z0
  have f4 := E0.wr W2
  have f5 := F_line.other W2 (Or.inr (slot_ne (Or.inr (hw _ (List.mem_of_getElem? (i := 30) rfl))) (Or.inr (hw _ (List.mem_of_getElem? (i := 28) rfl))) (by decide) (t := .int) (t' := (.object "java/lang/String")) (by decide) (by decide)))
  have K2 := (Keep.refl h0 [xa]).wr W2 (Or.inl (List.mem_cons_self ..))
  show Own.Fin p e below (T2.setTop (mkF m 9 #[.val (.ref xa), .val (.ref fa), .val (.int p3)] [])) _
  refine Own.go (fun t k => XS.aloadN X2.here hx rfl (hb hby d1_9) rfl rfl k) ?_
  show Own.Fin p e below (T2.setTop (mkF m 10 #[.val (.ref xa), .val (.ref fa), .val (.int p3)] [(.ref xa)])) _
  refine Own.go (fun t k => XS.iloadN X2.here hx rfl (hb hby d1_10) rfl k) ?_
  show Own.Fin p e below (T2.setTop (mkF m 11 #[.val (.ref xa), .val (.ref fa), .val (.int p3)] [(.int p3), (.ref xa)])) _
  obtain ⟨T6, h6, X6, e6, W6, st6⟩ := putF X2 hx hZ hown (host := "") (Or.inl (hw _ (List.mem_of_getElem? (i := 29) rfl))) Via.refl e2 f5 f4 (Or.inr ⟨(hw _ (List.mem_of_getElem? (i := 30) rfl)), rfl, hnm⟩) (hw _ (List.mem_of_getElem? (i := 6) rfl)) (ty := .int) (by decide) rfl rfl (g := (mkF m 11 #[.val (.ref xa), .val (.ref fa), .val (.int p3)] [(.int p3), (.ref xa)])) rfl rfl (hb hby d1_11)
  refine Own.go st6 ?_
  have f7 := f5.same W6
  have N6 := Fr.snoc X6 N2 gx
  have Z6 : n0 ≤ h6.size := by rw [W6.size]; exact Z2
  have f8 := f4.wr W6
  have f9 := f3.other W6 (Or.inr (slot_ne (Or.inr (hw _ (List.mem_of_getElem? (i := 28) rfl))) (Or.inr (hw _ (List.mem_of_getElem? (i := 30) rfl))) (by decide) (t := (.object "java/lang/String")) (t' := .int) (by decide) (by decide)))
  have K6 := K2.wr W6 (Or.inl (List.mem_cons_self ..))
  show Own.Fin p e below (T6.setTop (mkF m 14 #[.val (.ref xa), .val (.ref fa), .val (.int p3)] [])) _
  refine Own.retV X6 hx Bd.notSynchronized Bd.returns (hb hby d1_14) (by decide) (by decide) ?_
  exact ⟨rfl, N6, by rw [e6]; exact K6⟩
theorem d6_0 : decode jdk_39_method_1_code 0 = .ok (.aload_n 0, 1) := by decide +kernel
theorem d6_1 : decode jdk_39_method_1_code 1 = .ok (.invokespecial 1, 3) := by decide +kernel
theorem d6_4 : decode jdk_39_method_1_code 4 = .ok (.aload_n 0, 1) := by decide +kernel
theorem d6_5 : decode jdk_39_method_1_code 5 = .ok (.iconst 0, 1) := by decide +kernel
theorem d6_6 : decode jdk_39_method_1_code 6 = .ok (.putfield 7, 3) := by decide +kernel
theorem d6_9 : decode jdk_39_method_1_code 9 = .ok (.return_, 1) := by decide +kernel
theorem pn_6 : plainName "java/util/AbstractList" = true := by first | (simp [plainName, overriddenIn]; done) | decide +kernel
theorem ef_6 (m : MethodId) (la : Addr)  : entryFrame m #[(.ref la)] 1 = mkF m 0 #[.val (.ref la)] [] := by first | (simp [entryFrame, mkF, argsToLocals, Value.category]; done) | rfl
def Q6 (Z : State) (la : Addr)  (h0 : Heap) (n0 : Nat) : Option Value → Heap → List Loc → Prop := fun v h L => v = none ∧ Fr n0 L ∧ Keep h0 h [la] ∧ Fld Z h la "java/util/ArrayList" "elementData" "[Ljava/lang/Object;" .null
set_option maxRecDepth 65536 in
set_option maxHeartbeats 40000000 in
theorem rm6 (l : Launch) (Z : State) (a0 : Array Value) (hw : ∀ d ∈ tables_1, d.before a0 Z = true) (ws : List Jvm.Cond) (la : Addr)  (h0 : Heap) (n0 : Nat) (Z0 : n0 ≤ h0.size) (E0 : Exa Z h0 la "java/util/ArrayList") (F_modCount : Fld Z h0 la "java/util/AbstractList" "modCount" "I" (.int (0 : Int32))) (F_elementData : Fld Z h0 la "java/util/ArrayList" "elementData" "[Ljava/lang/Object;" .null) (gl : n0 ≤ la) :
    MetFree l (⟨"java/util/AbstractList", "<init>", "()V"⟩ : MethodName) (head1 (Jvm.Cond.code (⟨"java/util/AbstractList", "<init>", "()V"⟩ : MethodName) jdk_39_method_1_code 1 none :: ws) ({ frames := 2, cells := 0, slots := 0, locals := 40 } : Room)) (fun a U => a = #[(.ref la)] ∧ Z.Warmed39 U.vm ∧ U.heap = h0) (fun _ _ _ _ _ => True) (fun _ U o U' => ∃ v L, o = .returned v ∧ (Q6 Z la h0 n0) v U'.heap L ∧ FrameEnd U o U' L ({ frames := 2, cells := 0, slots := 0, locals := 40 } : Room).cells ({ frames := 2, cells := 0, slots := 0, locals := 40 } : Room).slots) := by
  refine MetFree.of_bodySF (plainFor_of_name pn_6) hisR ?_
  intro p e s m args below meth c s₁ Bd hml0 hP hK
  obtain ⟨rfl, hZ, hh⟩ := hP
  have hx := Bd.exec
  have hby := Bd.bytes
  have hml : c.maxLocals = 1 := hml0
  have hown : s.vm.findClass "java/util/AbstractList" = some m.cls := findClass_of_methodNamed Bd.named
  have hnm := (name_of_methodNamed Bd.named Bd.method).1
  have X0 : Stand p l e ({ frames := 2, cells := 0, slots := 0, locals := 40 } : Room) s m #[(.ref la)] below meth c s₁ [] 0 0 := Stand.of_body Bd
  have e0 : s₁.heap = h0 := by rw [← hh, Bd.state]; rfl
  have N0 := Fr.nil n0
  show Own.Fin p e below _ (Own.Post s (Q6 Z la h0 n0) ({ frames := 2, cells := 0, slots := 0, locals := 40 } : Room).cells ({ frames := 2, cells := 0, slots := 0, locals := 40 } : Room).slots)
  refine Own.start (ef_6 m la) ?_
  show Own.Fin p e below (s₁.setTop (mkF m 0 #[.val (.ref la)] [])) _
  refine Own.go (fun t k => XS.aloadN X0.here hx rfl (hb hby d6_0) rfl rfl k) ?_
  show Own.Fin p e below (s₁.setTop (mkF m 1 #[.val (.ref la)] [(.ref la)])) _
  refine Own.cI X0 hx hZ rfl hown (hw _ (List.mem_of_getElem? (i := 48) rfl)) (hw _ (List.mem_of_getElem? (i := 49) rfl)) (hw _ (List.mem_of_getElem? (i := 52) rfl)) (hw _ (List.mem_of_getElem? (i := 53) rfl)) (by decide) (rm7 l Z a0 hw [] la h0 n0 Z0 ) (by decide) (W := 0) (by decide) (argsL := []) (rest := []) (by rw [hml]; rfl) (lenOf pd_15 rfl) rfl (Nat.le_of_eq rfl) (hb hby d6_1) e0 (by decide) (by decide) ?_
  intro T1 L1 v1 X1 hQ1
  obtain ⟨rfl, N1q, e1⟩ := hQ1
  have N1 := Fr.app N0 N1q
  show Own.Fin p e below (T1.setTop (mkF m 4 #[.val (.ref la)] [])) _
  refine Own.go (fun t k => XS.aloadN X1.here hx rfl (hb hby d6_4) rfl rfl k) ?_
  show Own.Fin p e below (T1.setTop (mkF m 5 #[.val (.ref la)] [(.ref la)])) _
  refine Own.go (fun t k => XS.iconst X1.here hx rfl (hb hby d6_5) k) ?_
  show Own.Fin p e below (T1.setTop (mkF m 6 #[.val (.ref la)] [(.int (0 : Int32)), (.ref la)])) _
  obtain ⟨T2, h2, X2, e2, W2, st2⟩ := putF X1 hx hZ hown (host := "") (Or.inl (hw _ (List.mem_of_getElem? (i := 55) rfl))) Via.refl e1 F_modCount E0 (Or.inl (hw _ (List.mem_of_getElem? (i := 56) rfl))) (hw _ (List.mem_of_getElem? (i := 37) rfl)) (ty := .int) (by decide) rfl rfl (g := (mkF m 6 #[.val (.ref la)] [(.int (0 : Int32)), (.ref la)])) rfl rfl (hb hby d6_6)
  refine Own.go st2 ?_
  have f3 := F_modCount.same W2
  have N2 := Fr.snoc X2 N1 gl
  have Z2 : n0 ≤ h2.size := by rw [W2.size]; exact Z0
  have f4 := E0.wr W2
  have f5 := F_elementData.other W2 (Or.inr (slot_ne (Or.inl (hw _ (List.mem_of_getElem? (i := 59) rfl))) (Or.inl (hw _ (List.mem_of_getElem? (i := 56) rfl))) (by decide) (t := (.array (.object "java/lang/Object"))) (t' := .int) (by decide) (by decide)))
  have K2 := (Keep.refl h0 [la]).wr W2 (Or.inl (List.mem_cons_self ..))
  show Own.Fin p e below (T2.setTop (mkF m 9 #[.val (.ref la)] [])) _
  refine Own.retV X2 hx Bd.notSynchronized Bd.returns (hb hby d6_9) (by decide) (by decide) ?_
  exact ⟨rfl, N2, by rw [e2]; exact K2, by rw [e2]; exact f5⟩
theorem d5_0 : decode jdk_38_method_2_code 0 = .ok (.aload_n 0, 1) := by decide +kernel
theorem d5_1 : decode jdk_38_method_2_code 1 = .ok (.invokespecial 1, 3) := by decide +kernel
theorem d5_4 : decode jdk_38_method_2_code 4 = .ok (.aload_n 0, 1) := by decide +kernel
theorem d5_5 : decode jdk_38_method_2_code 5 = .ok (.getstatic 39, 3) := by decide +kernel
theorem d5_8 : decode jdk_38_method_2_code 8 = .ok (.putfield 9, 3) := by decide +kernel
theorem d5_11 : decode jdk_38_method_2_code 11 = .ok (.return_, 1) := by decide +kernel
theorem pn_5 : plainName "java/util/ArrayList" = true := by first | (simp [plainName, overriddenIn]; done) | decide +kernel
theorem ef_5 (m : MethodId) (la : Addr)  : entryFrame m #[(.ref la)] 1 = mkF m 0 #[.val (.ref la)] [] := by first | (simp [entryFrame, mkF, argsToLocals, Value.category]; done) | rfl
def Q5 (Z : State) (la : Addr) (fe_ : Addr) (h0 : Heap) (n0 : Nat) : Option Value → Heap → List Loc → Prop := fun v h L => v = none ∧ Fr n0 L ∧ Keep h0 h [la]
set_option maxRecDepth 65536 in
set_option maxHeartbeats 40000000 in
theorem rm5 (l : Launch) (Z : State) (a0 : Array Value) (hw : ∀ d ∈ tables_1, d.before a0 Z = true) (ws : List Jvm.Cond) (la : Addr) (fe_ : Addr) (h0 : Heap) (n0 : Nat) (Z0 : n0 ≤ h0.size) (O0 : Old Z n0 h0) (SE : Sta Z Z.heap "java/util/ArrayList" "DEFAULTCAPACITY_EMPTY_ELEMENTDATA" "[Ljava/lang/Object;" (.ref fe_)) (E0 : Exa Z h0 la "java/util/ArrayList") (F_modCount : Fld Z h0 la "java/util/AbstractList" "modCount" "I" (.int (0 : Int32))) (F_elementData : Fld Z h0 la "java/util/ArrayList" "elementData" "[Ljava/lang/Object;" .null) (gl : n0 ≤ la) :
    MetFree l (⟨"java/util/ArrayList", "<init>", "()V"⟩ : MethodName) (head1 (Jvm.Cond.code (⟨"java/util/ArrayList", "<init>", "()V"⟩ : MethodName) jdk_38_method_2_code 1 none :: ws) ({ frames := 3, cells := 0, slots := 0, locals := 60 } : Room)) (fun a U => a = #[(.ref la)] ∧ Z.Warmed39 U.vm ∧ U.heap = h0) (fun _ _ _ _ _ => True) (fun _ U o U' => ∃ v L, o = .returned v ∧ (Q5 Z la fe_ h0 n0) v U'.heap L ∧ FrameEnd U o U' L ({ frames := 3, cells := 0, slots := 0, locals := 60 } : Room).cells ({ frames := 3, cells := 0, slots := 0, locals := 60 } : Room).slots) := by
  refine MetFree.of_bodySF (plainFor_of_name pn_5) hisR ?_
  intro p e s m args below meth c s₁ Bd hml0 hP hK
  obtain ⟨rfl, hZ, hh⟩ := hP
  have hx := Bd.exec
  have hby := Bd.bytes
  have hml : c.maxLocals = 1 := hml0
  have hown : s.vm.findClass "java/util/ArrayList" = some m.cls := findClass_of_methodNamed Bd.named
  have hnm := (name_of_methodNamed Bd.named Bd.method).1
  have X0 : Stand p l e ({ frames := 3, cells := 0, slots := 0, locals := 60 } : Room) s m #[(.ref la)] below meth c s₁ [] 0 0 := Stand.of_body Bd
  have e0 : s₁.heap = h0 := by rw [← hh, Bd.state]; rfl
  have N0 := Fr.nil n0
  show Own.Fin p e below _ (Own.Post s (Q5 Z la fe_ h0 n0) ({ frames := 3, cells := 0, slots := 0, locals := 60 } : Room).cells ({ frames := 3, cells := 0, slots := 0, locals := 60 } : Room).slots)
  refine Own.start (ef_5 m la) ?_
  show Own.Fin p e below (s₁.setTop (mkF m 0 #[.val (.ref la)] [])) _
  refine Own.go (fun t k => XS.aloadN X0.here hx rfl (hb hby d5_0) rfl rfl k) ?_
  show Own.Fin p e below (s₁.setTop (mkF m 1 #[.val (.ref la)] [(.ref la)])) _
  refine Own.cI X0 hx hZ rfl hown (hw _ (List.mem_of_getElem? (i := 42) rfl)) (hw _ (List.mem_of_getElem? (i := 43) rfl)) (hw _ (List.mem_of_getElem? (i := 46) rfl)) (hw _ (List.mem_of_getElem? (i := 47) rfl)) (by decide) (rm6 l Z a0 hw [] la h0 n0 Z0 E0 F_modCount F_elementData gl) (by decide) (W := 0) (by decide) (argsL := []) (rest := []) (by rw [hml]; rfl) (lenOf pd_15 rfl) rfl (Nat.le_of_eq rfl) (hb hby d5_1) e0 (by decide) (by decide) ?_
  intro T1 L1 v1 X1 hQ1
  obtain ⟨rfl, N1q, K1q, F1q⟩ := hQ1
  have N1 := Fr.app N0 N1q
  have f2 := E0.keep K1q
  have Z1 : n0 ≤ T1.heap.size := Nat.le_trans Z0 K1q.1
  have KK1 := (Keep.refl h0 [la]).trans K1q (allS (Or.inl (List.mem_cons_self ..)) all0)
  have O1 := O0.keep K1q (allS gl all0)
  show Own.Fin p e below (T1.setTop (mkF m 4 #[.val (.ref la)] [])) _
  refine Own.go (fun t k => XS.aloadN X1.here hx rfl (hb hby d5_4) rfl rfl k) ?_
  show Own.Fin p e below (T1.setTop (mkF m 5 #[.val (.ref la)] [(.ref la)])) _
  obtain ⟨T3, X3, e3, st3⟩ := getS2 X1 hx hZ hown (host := "") (Or.inl (hw _ (List.mem_of_getElem? (i := 57) rfl))) Via.refl rfl (SE.ext O1.2) (g := (mkF m 5 #[.val (.ref la)] [(.ref la)])) rfl (hb hby d5_5)
  refine Own.go st3 ?_
  show Own.Fin p e below (T3.setTop (mkF m 8 #[.val (.ref la)] [(.ref fe_), (.ref la)])) _
  obtain ⟨T4, h4, X4, e4, W4, st4⟩ := putF X3 hx hZ hown (host := "") (Or.inl (hw _ (List.mem_of_getElem? (i := 58) rfl))) Via.refl e3 F1q f2 (Or.inl (hw _ (List.mem_of_getElem? (i := 59) rfl))) (hw _ (List.mem_of_getElem? (i := 37) rfl)) (ty := (.array (.object "java/lang/Object"))) (by decide) rfl rfl (g := (mkF m 8 #[.val (.ref la)] [(.ref fe_), (.ref la)])) rfl rfl (hb hby d5_8)
  refine Own.go st4 ?_
  have f5 := F1q.same W4
  have N4 := Fr.snoc X4 N1 gl
  have Z4 : n0 ≤ h4.size := by rw [W4.size]; exact Z1
  have f6 := f2.wr W4
  have K4 := KK1.wr W4 (Or.inl (List.mem_cons_self ..))
  have O4 := O1.wr W4 gl
  show Own.Fin p e below (T4.setTop (mkF m 11 #[.val (.ref la)] [])) _
  refine Own.retV X4 hx Bd.notSynchronized Bd.returns (hb hby d5_11) (by decide) (by decide) ?_
  exact ⟨rfl, N4, by rw [e4]; exact K4⟩
theorem d9_0 : decode jdk_68_method_2_code 0 = .ok (.aload_n 0, 1) := by decide +kernel
theorem d9_1 : decode jdk_68_method_2_code 1 = .ok (.invokespecial 3, 3) := by decide +kernel
theorem d9_4 : decode jdk_68_method_2_code 4 = .ok (.getstatic 18, 3) := by decide +kernel
theorem d9_7 : decode jdk_68_method_2_code 7 = .ok (.ifCond .eq 18, 3) := by decide +kernel
theorem d9_10 : decode jdk_68_method_2_code 10 = .ok (.aload_n 0, 1) := by decide +kernel
theorem d9_11 : decode jdk_68_method_2_code 11 = .ok (.iload_n 1, 1) := by decide +kernel
theorem d9_12 : decode jdk_68_method_2_code 12 = .ok (.newarray .byte, 2) := by decide +kernel
theorem d9_14 : decode jdk_68_method_2_code 14 = .ok (.putfield 15, 3) := by decide +kernel
theorem d9_17 : decode jdk_68_method_2_code 17 = .ok (.aload_n 0, 1) := by decide +kernel
theorem d9_18 : decode jdk_68_method_2_code 18 = .ok (.iconst 0, 1) := by decide +kernel
theorem d9_19 : decode jdk_68_method_2_code 19 = .ok (.putfield 22, 3) := by decide +kernel
theorem d9_22 : decode jdk_68_method_2_code 22 = .ok (.goto 16, 3) := by decide +kernel
theorem d9_38 : decode jdk_68_method_2_code 38 = .ok (.return_, 1) := by decide +kernel
theorem pn_9 : plainName "java/lang/AbstractStringBuilder" = true := by first | (simp [plainName, overriddenIn]; done) | decide +kernel
theorem ef_9 (m : MethodId) (oa : Addr) (p2 : Int32)  : entryFrame m #[(.ref oa), (.int p2)] 2 = mkF m 0 #[.val (.ref oa), .val (.int p2)] [] := by first | (simp [entryFrame, mkF, argsToLocals, Value.category]; done) | rfl
def Q9 (Z : State) (oa : Addr) (p2 : Int32) (cs : Int32) (h0 : Heap) (n0 : Nat) : Option Value → Heap → List Loc → Prop := fun v h L => ∃ va, v = none ∧ Fr n0 L ∧ Keep h0 h [oa] ∧ n0 ≤ va ∧ oa ≠ va ∧ h0.size ≤ va ∧ SBR Z h oa va (fun _ => 0) 0
set_option maxRecDepth 65536 in
set_option maxHeartbeats 40000000 in
theorem rm9 (l : Launch) (Z : State) (a0 : Array Value) (hw : ∀ d ∈ tables_1, d.before a0 Z = true) (ws : List Jvm.Cond) (oa : Addr) (p2 : Int32) (cs : Int32) (h0 : Heap) (n0 : Nat) (Z0 : n0 ≤ h0.size) (O0 : Old Z n0 h0) (SC : Sta Z Z.heap "java/lang/String" "COMPACT_STRINGS" "Z" (.int cs)) (hcs : ¬ cs = (0 : Int32)) (E0 : Exa Z h0 oa "java/lang/StringBuilder") (F_value : Fld Z h0 oa "java/lang/AbstractStringBuilder" "value" "[B" .null) (F_coder : Fld Z h0 oa "java/lang/AbstractStringBuilder" "coder" "B" (.int (0 : Int32))) (F_count : Fld Z h0 oa "java/lang/AbstractStringBuilder" "count" "I" (.int (0 : Int32))) (F_maybeLatin1 : Fld Z h0 oa "java/lang/AbstractStringBuilder" "maybeLatin1" "Z" (.int (0 : Int32))) (ga : n0 ≤ oa) (hp2 : p2 = (16 : Int32)) :
    MetFree l (⟨"java/lang/AbstractStringBuilder", "<init>", "(I)V"⟩ : MethodName) (head1 (Jvm.Cond.code (⟨"java/lang/AbstractStringBuilder", "<init>", "(I)V"⟩ : MethodName) jdk_68_method_2_code 2 none :: ws) ({ frames := 1, cells := 1, slots := 16, locals := 12 } : Room)) (fun a U => a = #[(.ref oa), (.int p2)] ∧ Z.Warmed39 U.vm ∧ U.heap = h0) (fun _ _ _ _ _ => True) (fun _ U o U' => ∃ v L, o = .returned v ∧ (Q9 Z oa p2 cs h0 n0) v U'.heap L ∧ FrameEnd U o U' L ({ frames := 1, cells := 1, slots := 16, locals := 12 } : Room).cells ({ frames := 1, cells := 1, slots := 16, locals := 12 } : Room).slots) := by
  refine MetFree.of_bodySF (plainFor_of_name pn_9) hisR ?_
  intro p e s m args below meth c s₁ Bd hml0 hP hK
  obtain ⟨rfl, hZ, hh⟩ := hP
  have hx := Bd.exec
  have hby := Bd.bytes
  have hml : c.maxLocals = 2 := hml0
  have hown : s.vm.findClass "java/lang/AbstractStringBuilder" = some m.cls := findClass_of_methodNamed Bd.named
  have hnm := (name_of_methodNamed Bd.named Bd.method).1
  have X0 : Stand p l e ({ frames := 1, cells := 1, slots := 16, locals := 12 } : Room) s m #[(.ref oa), (.int p2)] below meth c s₁ [] 0 0 := Stand.of_body Bd
  have e0 : s₁.heap = h0 := by rw [← hh, Bd.state]; rfl
  have N0 := Fr.nil n0
  show Own.Fin p e below _ (Own.Post s (Q9 Z oa p2 cs h0 n0) ({ frames := 1, cells := 1, slots := 16, locals := 12 } : Room).cells ({ frames := 1, cells := 1, slots := 16, locals := 12 } : Room).slots)
  refine Own.start (ef_9 m oa p2) ?_
  show Own.Fin p e below (s₁.setTop (mkF m 0 #[.val (.ref oa), .val (.int p2)] [])) _
  rw [hp2]
  show Own.Fin p e below (s₁.setTop (mkF m 0 #[.val (.ref oa), .val (.int (16 : Int32))] [])) _
  refine Own.go (fun t k => XS.aloadN X0.here hx rfl (hb hby d9_0) rfl rfl k) ?_
  show Own.Fin p e below (s₁.setTop (mkF m 1 #[.val (.ref oa), .val (.int (16 : Int32))] [(.ref oa)])) _
  obtain ⟨T1, X1, e1, st1⟩ := initO X0 hx hZ hown (hw _ (List.mem_of_getElem? (i := 74) rfl)) (hw _ (List.mem_of_getElem? (i := 25) rfl)) (hw _ (List.mem_of_getElem? (i := 26) rfl)) e0 (g := (mkF m 1 #[.val (.ref oa), .val (.int (16 : Int32))] [(.ref oa)])) rfl (by rw [hml]; rfl) rfl (hb hby d9_1) (by decide) (W := 0) (by show 2 * 0 + _ ≤ _; exact Nat.le_of_eq rfl) (by decide)
  refine Own.go st1 ?_
  show Own.Fin p e below (T1.setTop (mkF m 4 #[.val (.ref oa), .val (.int (16 : Int32))] [])) _
  obtain ⟨T2, X2, e2, st2⟩ := getS2 X1 hx hZ hown (host := "") (Or.inl (hw _ (List.mem_of_getElem? (i := 75) rfl))) Via.refl e1 (SC.ext O0.2) (g := (mkF m 4 #[.val (.ref oa), .val (.int (16 : Int32))] [])) rfl (hb hby d9_4)
  refine Own.go st2 ?_
  show Own.Fin p e below (T2.setTop (mkF m 7 #[.val (.ref oa), .val (.int (16 : Int32))] [(.int cs)])) _
  have hc7_2 : ¬ (cs = (0 : Int32)) := hcs
  refine Own.go (fun t k => XS.ifNo X2.here hx rfl (hb hby d9_7) rfl ((if0 _ _).trans (feq hc7_2).1) k) ?_
  show Own.Fin p e below (T2.setTop (mkF m 10 #[.val (.ref oa), .val (.int (16 : Int32))] [])) _
  refine Own.go (fun t k => XS.aloadN X2.here hx rfl (hb hby d9_10) rfl rfl k) ?_
  show Own.Fin p e below (T2.setTop (mkF m 11 #[.val (.ref oa), .val (.int (16 : Int32))] [(.ref oa)])) _
  refine Own.go (fun t k => XS.iloadN X2.here hx rfl (hb hby d9_11) rfl k) ?_
  show Own.Fin p e below (T2.setTop (mkF m 12 #[.val (.ref oa), .val (.int (16 : Int32))] [(.int (16 : Int32)), (.ref oa)])) _
  refine Own.newA X2 hx hZ (hw _ (List.mem_of_getElem? (i := 11) rfl)) e2 (hb hby d9_12) (by decide) 16 (by decide) (by decide) (by decide) (by decide) ?_
  intro T4 h4 b4 k4 X4 e4 E4 gb4 V4
  have ge4 : n0 ≤ b4 := by rw [gb4]; exact Z0
  have sz_b4 : h0.size ≤ b4 := Nat.le_trans (Keep.refl h0 [oa]).1 (Nat.le_of_eq gb4.symm)
  have ne4_oa : oa ≠ b4 := Nat.ne_of_lt (Nat.lt_of_lt_of_le E0.lt (Nat.le_of_eq gb4.symm))
  have Z4 : n0 ≤ h4.size := Nat.le_trans Z0 E4.1
  have f5 := E0.ext E4
  have f6 := F_value.ext E4
  have f7 := F_coder.ext E4
  have f8 := F_count.ext E4
  have f9 := F_maybeLatin1.ext E4
  have K4 := (Keep.refl h0 [oa]).ext E4
  have O4 := O0.ext E4
  have Vp4 : Arv Z h4 b4 k4 .byte (16 : Int32) [(.int (0 : Int32)), (.int (0 : Int32)), (.int (0 : Int32)), (.int (0 : Int32)), (.int (0 : Int32)), (.int (0 : Int32)), (.int (0 : Int32)), (.int (0 : Int32)), (.int (0 : Int32)), (.int (0 : Int32)), (.int (0 : Int32)), (.int (0 : Int32)), (.int (0 : Int32)), (.int (0 : Int32)), (.int (0 : Int32)), (.int (0 : Int32))] (.int (0 : Int32)) := Arv.pad V4 (pad_rep [] (.int (0 : Int32)) 16)
  show Own.Fin p e below (T4.setTop (mkF m 14 #[.val (.ref oa), .val (.int (16 : Int32))] [(.ref b4), (.ref oa)])) _
  have Vt : Arv Z h4 b4 k4 .byte (16 : Int32) (tab 16 (fun _ => .int (0 : Int32))) (.int (0 : Int32)) := Arv.pad V4 (tab_nil 16 _)
  obtain ⟨T10, h10, X10, e10, W10, st10⟩ := putF X4 hx hZ hown (host := "") (Or.inl (hw _ (List.mem_of_getElem? (i := 76) rfl))) Via.refl e4 f6 f5 (Or.inl (hw _ (List.mem_of_getElem? (i := 77) rfl))) (hw _ (List.mem_of_getElem? (i := 63) rfl)) (ty := (.array .byte)) (by decide) rfl rfl (g := (mkF m 14 #[.val (.ref oa), .val (.int (16 : Int32))] [(.ref b4), (.ref oa)])) rfl rfl (hb hby d9_14)
  refine Own.go st10 ?_
  have f11 := f6.same W10
  have N10 := Fr.snoc X10 N0 ga
  have Z10 : n0 ≤ h10.size := by rw [W10.size]; exact Z4
  have f12 := f5.wr W10
  have f13 := f7.other W10 (Or.inr (slot_ne (Or.inl (hw _ (List.mem_of_getElem? (i := 79) rfl))) (Or.inl (hw _ (List.mem_of_getElem? (i := 77) rfl))) (by decide) (t := .byte) (t' := (.array .byte)) (by decide) (by decide)))
  have f14 := f8.other W10 (Or.inr (slot_ne (Or.inl (hw _ (List.mem_of_getElem? (i := 110) rfl))) (Or.inl (hw _ (List.mem_of_getElem? (i := 77) rfl))) (by decide) (t := .int) (t' := (.array .byte)) (by decide) (by decide)))
  have f15 := f9.other W10 (Or.inr (slot_ne (Or.inl (hw _ (List.mem_of_getElem? (i := 269) rfl))) (Or.inl (hw _ (List.mem_of_getElem? (i := 77) rfl))) (by decide) (t := .boolean) (t' := (.array .byte)) (by decide) (by decide)))
  have f16 := Vt.other W10 (Ne.symm ne4_oa)
  have K10 := K4.wr W10 (Or.inl (List.mem_cons_self ..))
  have O10 := O4.wr W10 ga
  show Own.Fin p e below (T10.setTop (mkF m 17 #[.val (.ref oa), .val (.int (16 : Int32))] [])) _
  refine Own.go (fun t k => XS.aloadN X10.here hx rfl (hb hby d9_17) rfl rfl k) ?_
  show Own.Fin p e below (T10.setTop (mkF m 18 #[.val (.ref oa), .val (.int (16 : Int32))] [(.ref oa)])) _
  refine Own.go (fun t k => XS.iconst X10.here hx rfl (hb hby d9_18) k) ?_
  show Own.Fin p e below (T10.setTop (mkF m 19 #[.val (.ref oa), .val (.int (16 : Int32))] [(.int (0 : Int32)), (.ref oa)])) _
  obtain ⟨T17, h17, X17, e17, W17, st17⟩ := putFN X10 hx hZ hown (hw _ (List.mem_of_getElem? (i := 78) rfl)) Via.refl e10 f13 f12 (Or.inl (hw _ (List.mem_of_getElem? (i := 79) rfl))) (hw _ (List.mem_of_getElem? (i := 63) rfl)) (ty := .byte) (v' := (.int (nar .byte (0 : Int32)))) (by decide) rfl (fits_nar_byte _) (g := (mkF m 19 #[.val (.ref oa), .val (.int (16 : Int32))] [(.int (0 : Int32)), (.ref oa)])) rfl rfl (hb hby d9_19)
  refine Own.go st17 ?_
  have f18 := f13.same W17
  have N17 := Fr.snoc X17 N10 ga
  have Z17 : n0 ≤ h17.size := by rw [W17.size]; exact Z10
  have f19 := f12.wr W17
  have f20 := f11.other W17 (Or.inr (slot_ne (Or.inl (hw _ (List.mem_of_getElem? (i := 77) rfl))) (Or.inl (hw _ (List.mem_of_getElem? (i := 79) rfl))) (by decide) (t := (.array .byte)) (t' := .byte) (by decide) (by decide)))
  have f21 := f14.other W17 (Or.inr (slot_ne (Or.inl (hw _ (List.mem_of_getElem? (i := 110) rfl))) (Or.inl (hw _ (List.mem_of_getElem? (i := 79) rfl))) (by decide) (t := .int) (t' := .byte) (by decide) (by decide)))
  have f22 := f15.other W17 (Or.inr (slot_ne (Or.inl (hw _ (List.mem_of_getElem? (i := 269) rfl))) (Or.inl (hw _ (List.mem_of_getElem? (i := 79) rfl))) (by decide) (t := .boolean) (t' := .byte) (by decide) (by decide)))
  have f23 := f16.other W17 (Ne.symm ne4_oa)
  have K17 := K10.wr W17 (Or.inl (List.mem_cons_self ..))
  have O17 := O10.wr W17 ga
  show Own.Fin p e below (T17.setTop (mkF m 22 #[.val (.ref oa), .val (.int (16 : Int32))] [])) _
  refine Own.go (fun t k => XS.goto X17.here hx rfl (pc0 := 22) (pc' := 38) rfl (hb hby d9_22) (by decide) (by decide) k) ?_
  show Own.Fin p e below (T17.setTop (mkF m 38 #[.val (.ref oa), .val (.int (16 : Int32))] [])) _
  refine Own.retV X17 hx Bd.notSynchronized Bd.returns (hb hby d9_38) (by decide) (by decide) ?_
  exact ⟨b4, rfl, N17, by rw [e17]; exact K17, ge4, ne4_oa, sz_b4, by rw [e17]; exact ⟨f19, f21, f22, f20, Or.inl ⟨_, _, f18, f23, fun i hi => absurd hi (Nat.not_lt_zero i)⟩⟩⟩
theorem d8_0 : decode jdk_67_method_1_code 0 = .ok (.aload_n 0, 1) := by decide +kernel
theorem d8_1 : decode jdk_67_method_1_code 1 = .ok (.bipush 16, 2) := by decide +kernel
theorem d8_3 : decode jdk_67_method_1_code 3 = .ok (.invokespecial 1, 3) := by decide +kernel
theorem d8_6 : decode jdk_67_method_1_code 6 = .ok (.return_, 1) := by decide +kernel
theorem pn_8 : plainName "java/lang/StringBuilder" = true := by first | (simp [plainName, overriddenIn]; done) | decide +kernel
theorem ef_8 (m : MethodId) (oa : Addr)  : entryFrame m #[(.ref oa)] 1 = mkF m 0 #[.val (.ref oa)] [] := by first | (simp [entryFrame, mkF, argsToLocals, Value.category]; done) | rfl
def Q8 (Z : State) (oa : Addr) (cs : Int32) (h0 : Heap) (n0 : Nat) : Option Value → Heap → List Loc → Prop := fun v h L => ∃ va, v = none ∧ Fr n0 L ∧ Keep h0 h [oa] ∧ n0 ≤ va ∧ oa ≠ va ∧ h0.size ≤ va ∧ SBR Z h oa va (fun _ => 0) 0
set_option maxRecDepth 65536 in
set_option maxHeartbeats 40000000 in
theorem rm8 (l : Launch) (Z : State) (a0 : Array Value) (hw : ∀ d ∈ tables_1, d.before a0 Z = true) (ws : List Jvm.Cond) (oa : Addr) (cs : Int32) (h0 : Heap) (n0 : Nat) (Z0 : n0 ≤ h0.size) (O0 : Old Z n0 h0) (SC : Sta Z Z.heap "java/lang/String" "COMPACT_STRINGS" "Z" (.int cs)) (hcs : ¬ cs = (0 : Int32)) (E0 : Exa Z h0 oa "java/lang/StringBuilder") (F_value : Fld Z h0 oa "java/lang/AbstractStringBuilder" "value" "[B" .null) (F_coder : Fld Z h0 oa "java/lang/AbstractStringBuilder" "coder" "B" (.int (0 : Int32))) (F_count : Fld Z h0 oa "java/lang/AbstractStringBuilder" "count" "I" (.int (0 : Int32))) (F_maybeLatin1 : Fld Z h0 oa "java/lang/AbstractStringBuilder" "maybeLatin1" "Z" (.int (0 : Int32))) (ga : n0 ≤ oa) :
    MetFree l (⟨"java/lang/StringBuilder", "<init>", "()V"⟩ : MethodName) (head1 (Jvm.Cond.code (⟨"java/lang/StringBuilder", "<init>", "()V"⟩ : MethodName) jdk_67_method_1_code 1 none :: ws) ({ frames := 2, cells := 1, slots := 16, locals := 40 } : Room)) (fun a U => a = #[(.ref oa)] ∧ Z.Warmed39 U.vm ∧ U.heap = h0) (fun _ _ _ _ _ => True) (fun _ U o U' => ∃ v L, o = .returned v ∧ (Q8 Z oa cs h0 n0) v U'.heap L ∧ FrameEnd U o U' L ({ frames := 2, cells := 1, slots := 16, locals := 40 } : Room).cells ({ frames := 2, cells := 1, slots := 16, locals := 40 } : Room).slots) := by
  refine MetFree.of_bodySF (plainFor_of_name pn_8) hisR ?_
  intro p e s m args below meth c s₁ Bd hml0 hP hK
  obtain ⟨rfl, hZ, hh⟩ := hP
  have hx := Bd.exec
  have hby := Bd.bytes
  have hml : c.maxLocals = 1 := hml0
  have hown : s.vm.findClass "java/lang/StringBuilder" = some m.cls := findClass_of_methodNamed Bd.named
  have hnm := (name_of_methodNamed Bd.named Bd.method).1
  have X0 : Stand p l e ({ frames := 2, cells := 1, slots := 16, locals := 40 } : Room) s m #[(.ref oa)] below meth c s₁ [] 0 0 := Stand.of_body Bd
  have e0 : s₁.heap = h0 := by rw [← hh, Bd.state]; rfl
  have N0 := Fr.nil n0
  show Own.Fin p e below _ (Own.Post s (Q8 Z oa cs h0 n0) ({ frames := 2, cells := 1, slots := 16, locals := 40 } : Room).cells ({ frames := 2, cells := 1, slots := 16, locals := 40 } : Room).slots)
  refine Own.start (ef_8 m oa) ?_
  show Own.Fin p e below (s₁.setTop (mkF m 0 #[.val (.ref oa)] [])) _
  refine Own.go (fun t k => XS.aloadN X0.here hx rfl (hb hby d8_0) rfl rfl k) ?_
  show Own.Fin p e below (s₁.setTop (mkF m 1 #[.val (.ref oa)] [(.ref oa)])) _
  refine Own.go (fun t k => XS.bipush X0.here hx rfl (hb hby d8_1) k) ?_
  show Own.Fin p e below (s₁.setTop (mkF m 3 #[.val (.ref oa)] [(.int (16 : Int32)), (.ref oa)])) _
  refine Own.cI X0 hx hZ rfl hown (hw _ (List.mem_of_getElem? (i := 68) rfl)) (hw _ (List.mem_of_getElem? (i := 69) rfl)) (hw _ (List.mem_of_getElem? (i := 72) rfl)) (hw _ (List.mem_of_getElem? (i := 73) rfl)) (by decide) (rm9 l Z a0 hw [] oa (16 : Int32) cs h0 n0 Z0 O0 SC hcs E0 F_value F_coder F_count F_maybeLatin1 ga rfl) (by decide) (W := 0) (by decide) (argsL := [(.int (16 : Int32))]) (rest := []) (by rw [hml]; rfl) (lenOf pd_16 rfl) rfl (Nat.le_of_eq rfl) (hb hby d8_3) e0 (by decide) (by decide) ?_
  intro T1 L1 v1 X1 hQ1
  obtain ⟨va1, rfl, N1q, R1q⟩ := hQ1
  have N1 := Fr.app N0 N1q
  show Own.Fin p e below (T1.setTop (mkF m 6 #[.val (.ref oa)] [])) _
  refine Own.retV X1 hx Bd.notSynchronized Bd.returns (hb hby d8_6) (by decide) (by decide) ?_
  exact ⟨va1, rfl, N1, R1q⟩
theorem d4_0 : decode prog_100_method_1_code 0 = .ok (.aload_n 0, 1) := by decide +kernel
theorem d4_1 : decode prog_100_method_1_code 1 = .ok (.invokespecial 1, 3) := by decide +kernel
theorem d4_4 : decode prog_100_method_1_code 4 = .ok (.aload_n 0, 1) := by decide +kernel
theorem d4_5 : decode prog_100_method_1_code 5 = .ok (.new 7, 3) := by decide +kernel
theorem d4_8 : decode prog_100_method_1_code 8 = .ok (.dup, 1) := by decide +kernel
theorem d4_9 : decode prog_100_method_1_code 9 = .ok (.invokespecial 9, 3) := by decide +kernel
theorem d4_12 : decode prog_100_method_1_code 12 = .ok (.putfield 10, 3) := by decide +kernel
theorem d4_15 : decode prog_100_method_1_code 15 = .ok (.aload_n 0, 1) := by decide +kernel
theorem d4_16 : decode prog_100_method_1_code 16 = .ok (.new 16, 3) := by decide +kernel
theorem d4_19 : decode prog_100_method_1_code 19 = .ok (.dup, 1) := by decide +kernel
theorem d4_20 : decode prog_100_method_1_code 20 = .ok (.invokespecial 18, 3) := by decide +kernel
theorem d4_23 : decode prog_100_method_1_code 23 = .ok (.putfield 19, 3) := by decide +kernel
theorem d4_26 : decode prog_100_method_1_code 26 = .ok (.aload_n 0, 1) := by decide +kernel
theorem d4_27 : decode prog_100_method_1_code 27 = .ok (.aload_n 1, 1) := by decide +kernel
theorem d4_28 : decode prog_100_method_1_code 28 = .ok (.putfield 23, 3) := by decide +kernel
theorem d4_31 : decode prog_100_method_1_code 31 = .ok (.aload_n 0, 1) := by decide +kernel
theorem d4_32 : decode prog_100_method_1_code 32 = .ok (.aload_n 2, 1) := by decide +kernel
theorem d4_33 : decode prog_100_method_1_code 33 = .ok (.putfield 27, 3) := by decide +kernel
theorem d4_36 : decode prog_100_method_1_code 36 = .ok (.aload_n 0, 1) := by decide +kernel
theorem d4_37 : decode prog_100_method_1_code 37 = .ok (.aload_n 3, 1) := by decide +kernel
theorem d4_38 : decode prog_100_method_1_code 38 = .ok (.putfield 31, 3) := by decide +kernel
theorem d4_41 : decode prog_100_method_1_code 41 = .ok (.return_, 1) := by decide +kernel
theorem pn_4 : plainName "com/example/loomwright/loomwright/rule/XmlElement" = true := by first | (simp [plainName, overriddenIn]; done) | decide +kernel
theorem ef_4 (m : MethodId) (xa : Addr) (la : Addr) (na : Addr)  : entryFrame m #[(.ref xa), (.ref la), (.ref na), .null] 4 = mkF m 0 #[.val (.ref xa), .val (.ref la), .val (.ref na), .val .null] [] := by first | (simp [entryFrame, mkF, argsToLocals, Value.category]; done) | rfl
def Q4 (Z : State) (xa : Addr) (la : Addr) (na : Addr) (cs : Int32) (fe_ : Addr) (h0 : Heap) (n0 : Nat) : Option Value → Heap → List Loc → Prop := fun v h L => ∃ oa va, v = none ∧ Fr n0 L ∧ Keep h0 h [xa] ∧ n0 ≤ oa ∧ n0 ≤ va ∧ h0.size ≤ oa ∧ h0.size ≤ va ∧ oa ≠ va ∧ Fld Z h xa "com/example/loomwright/loomwright/rule/XmlElement" "text" "Ljava/lang/StringBuilder;" (.ref oa) ∧ SBR Z h oa va (fun _ => 0) 0
set_option maxRecDepth 65536 in
set_option maxHeartbeats 40000000 in
theorem rm4 (l : Launch) (Z : State) (a0 : Array Value) (hw : ∀ d ∈ tables_1, d.before a0 Z = true) (ws : List Jvm.Cond) (xa : Addr) (la : Addr) (na : Addr) (cs : Int32) (fe_ : Addr) (h0 : Heap) (n0 : Nat) (Z0 : n0 ≤ h0.size) (O0 : Old Z n0 h0) (SC : Sta Z Z.heap "java/lang/String" "COMPACT_STRINGS" "Z" (.int cs)) (SE : Sta Z Z.heap "java/util/ArrayList" "DEFAULTCAPACITY_EMPTY_ELEMENTDATA" "[Ljava/lang/Object;" (.ref fe_)) (hcs : ¬ cs = (0 : Int32)) (E0 : Exa Z h0 xa "com/example/loomwright/loomwright/rule/XmlElement") (F_children : Fld Z h0 xa "com/example/loomwright/loomwright/rule/XmlElement" "children" "Ljava/util/List;" .null) (F_text : Fld Z h0 xa "com/example/loomwright/loomwright/rule/XmlElement" "text" "Ljava/lang/StringBuilder;" .null) (F_location : Fld Z h0 xa "com/example/loomwright/loomwright/rule/XmlElement" "location" "Lcom/example/loomwright/loomwright/config/Location;" .null) (F_name : Fld Z h0 xa "com/example/loomwright/loomwright/rule/XmlElement" "name" "Ljava/lang/String;" .null) (F_attributes : Fld Z h0 xa "com/example/loomwright/loomwright/rule/XmlElement" "attributes" "Ljava/util/Map;" .null) (gx : n0 ≤ xa) :
    MetFree l (⟨"com/example/loomwright/loomwright/rule/XmlElement", "<init>", "(Lcom/example/loomwright/loomwright/config/Location;Ljava/lang/String;Ljava/util/Map;)V"⟩ : MethodName) (head1 (Jvm.Cond.code (⟨"com/example/loomwright/loomwright/rule/XmlElement", "<init>", "(Lcom/example/loomwright/loomwright/config/Location;Ljava/lang/String;Ljava/util/Map;)V"⟩ : MethodName) prog_100_method_1_code 4 none :: ws) ({ frames := 4, cells := 3, slots := 23, locals := 90 } : Room)) (fun a U => a = #[(.ref xa), (.ref la), (.ref na), .null] ∧ Z.Warmed39 U.vm ∧ U.heap = h0) (fun _ _ _ _ _ => True) (fun _ U o U' => ∃ v L, o = .returned v ∧ (Q4 Z xa la na cs fe_ h0 n0) v U'.heap L ∧ FrameEnd U o U' L ({ frames := 4, cells := 3, slots := 23, locals := 90 } : Room).cells ({ frames := 4, cells := 3, slots := 23, locals := 90 } : Room).slots) := by
  refine MetFree.of_bodySF (plainFor_of_name pn_4) hisR ?_
  intro p e s m args below meth c s₁ Bd hml0 hP hK
  obtain ⟨rfl, hZ, hh⟩ := hP
  have hx := Bd.exec
  have hby := Bd.bytes
  have hml : c.maxLocals = 4 := hml0
  have hown : s.vm.findClass "com/example/loomwright/loomwright/rule/XmlElement" = some m.cls := findClass_of_methodNamed Bd.named
  have hnm := (name_of_methodNamed Bd.named Bd.method).1
  have X0 : Stand p l e ({ frames := 4, cells := 3, slots := 23, locals := 90 } : Room) s m #[(.ref xa), (.ref la), (.ref na), .null] below meth c s₁ [] 0 0 := Stand.of_body Bd
  have e0 : s₁.heap = h0 := by rw [← hh, Bd.state]; rfl
  have N0 := Fr.nil n0
  show Own.Fin p e below _ (Own.Post s (Q4 Z xa la na cs fe_ h0 n0) ({ frames := 4, cells := 3, slots := 23, locals := 90 } : Room).cells ({ frames := 4, cells := 3, slots := 23, locals := 90 } : Room).slots)
  refine Own.start (ef_4 m xa la na) ?_
  show Own.Fin p e below (s₁.setTop (mkF m 0 #[.val (.ref xa), .val (.ref la), .val (.ref na), .val .null] [])) _
  refine Own.go (fun t k => XS.aloadN X0.here hx rfl (hb hby d4_0) rfl rfl k) ?_
  show Own.Fin p e below (s₁.setTop (mkF m 1 #[.val (.ref xa), .val (.ref la), .val (.ref na), .val .null] [(.ref xa)])) _
  obtain ⟨T1, X1, e1, st1⟩ := initO X0 hx hZ hown (hw _ (List.mem_of_getElem? (i := 35) rfl)) (hw _ (List.mem_of_getElem? (i := 25) rfl)) (hw _ (List.mem_of_getElem? (i := 26) rfl)) e0 (g := (mkF m 1 #[.val (.ref xa), .val (.ref la), .val (.ref na), .val .null] [(.ref xa)])) rfl (by rw [hml]; rfl) rfl (hb hby d4_1) (by decide) (W := 0) (by show 2 * 0 + _ ≤ _; exact Nat.le_of_eq rfl) (by decide)
  refine Own.go st1 ?_
  show Own.Fin p e below (T1.setTop (mkF m 4 #[.val (.ref xa), .val (.ref la), .val (.ref na), .val .null] [])) _
  refine Own.go (fun t k => XS.aloadN X1.here hx rfl (hb hby d4_4) rfl rfl k) ?_
  show Own.Fin p e below (T1.setTop (mkF m 5 #[.val (.ref xa), .val (.ref la), .val (.ref na), .val .null] [(.ref xa)])) _
  obtain ⟨T2, h2, X2, e2, E2, A2, D2, -, st2⟩ := newO X1 hx hZ hown (hw _ (List.mem_of_getElem? (i := 36) rfl)) (hw _ (List.mem_of_getElem? (i := 37) rfl)) (hw _ (List.mem_of_getElem? (i := 38) rfl)) e1 (g := (mkF m 5 #[.val (.ref xa), .val (.ref la), .val (.ref na), .val .null] [(.ref xa)])) rfl (hb hby d4_5) (by decide) (by decide)
  obtain ⟨b2, gb2⟩ : ∃ z, z = h0.size := ⟨_, rfl⟩
  rw [← gb2] at A2 D2 st2
  refine Own.go st2 ?_
  have ge2 : n0 ≤ b2 := by rw [gb2]; exact Z0
  have sz_b2 : h0.size ≤ b2 := Nat.le_trans (Keep.refl h0 [xa]).1 (Nat.le_of_eq gb2.symm)
  have ne2_xa : xa ≠ b2 := Nat.ne_of_lt (Nat.lt_of_lt_of_le E0.lt (Nat.le_of_eq gb2.symm))
  have Z2 : n0 ≤ h2.size := Nat.le_trans Z0 E2.1
  have f3 := E0.ext E2
  have f4 := F_children.ext E2
  have f5 := F_text.ext E2
  have f6 := F_location.ext E2
  have f7 := F_name.ext E2
  have f8 := F_attributes.ext E2
  have K2 := (Keep.refl h0 [xa]).ext E2
  have O2 := O0.ext E2
  have fl9 : Fld Z h2 b2 "java/util/AbstractList" "modCount" "I" (.int (0 : Int32)) := D2 (Or.inl (hw _ (List.mem_of_getElem? (i := 56) rfl))) (ty := .int) (by decide)
  have fl10 : Fld Z h2 b2 "java/util/ArrayList" "elementData" "[Ljava/lang/Object;" .null := D2 (Or.inl (hw _ (List.mem_of_getElem? (i := 59) rfl))) (ty := (.array (.object "java/lang/Object"))) (by decide)
  show Own.Fin p e below (T2.setTop (mkF m 8 #[.val (.ref xa), .val (.ref la), .val (.ref na), .val .null] [(.ref b2), (.ref xa)])) _
  refine Own.go (fun t k => XS.dup X2.here hx rfl (hb hby d4_8) rfl rfl k) ?_
  show Own.Fin p e below (T2.setTop (mkF m 9 #[.val (.ref xa), .val (.ref la), .val (.ref na), .val .null] [(.ref b2), (.ref b2), (.ref xa)])) _
  refine Own.cI X2 hx hZ rfl hown (hw _ (List.mem_of_getElem? (i := 39) rfl)) (hw _ (List.mem_of_getElem? (i := 40) rfl)) (hw _ (List.mem_of_getElem? (i := 38) rfl)) (hw _ (List.mem_of_getElem? (i := 41) rfl)) (by decide) (rm5 l Z a0 hw [] b2 fe_ h2 n0 Z2 O2 SE A2 fl9 fl10 ge2) (by decide) (W := 2) (by decide) (argsL := []) (rest := [(.ref b2), (.ref xa)]) (by rw [hml]; rfl) (lenOf pd_15 rfl) rfl (Nat.le_of_eq rfl) (hb hby d4_9) e2 (by decide) (by decide) ?_
  intro T11 L11 v11 X11 hQ11
  obtain ⟨rfl, N11q, K11q⟩ := hQ11
  have N11 := Fr.app N0 N11q
  have f12 := f3.keep K11q
  have f13 := f4.keep K11q (ninS ne2_xa nin0)
  have f14 := f5.keep K11q (ninS ne2_xa nin0)
  have f15 := f6.keep K11q (ninS ne2_xa nin0)
  have f16 := f7.keep K11q (ninS ne2_xa nin0)
  have f17 := f8.keep K11q (ninS ne2_xa nin0)
  have f18 := A2.keep K11q
  have Z11 : n0 ≤ T11.heap.size := Nat.le_trans Z2 K11q.1
  have KK11 := K2.trans K11q (allS (Or.inr sz_b2) all0)
  have O11 := O2.keep K11q (allS ge2 all0)
  show Own.Fin p e below (T11.setTop (mkF m 12 #[.val (.ref xa), .val (.ref la), .val (.ref na), .val .null] [(.ref b2), (.ref xa)])) _
  obtain ⟨T19, h19, X19, e19, W19, st19⟩ := putF X11 hx hZ hown (host := "") (Or.inl (hw _ (List.mem_of_getElem? (i := 60) rfl))) Via.refl rfl f13 f12 (Or.inr ⟨(hw _ (List.mem_of_getElem? (i := 61) rfl)), rfl, hnm⟩) (hw _ (List.mem_of_getElem? (i := 3) rfl)) (ty := (.object "java/util/List")) (by decide) rfl rfl (g := (mkF m 12 #[.val (.ref xa), .val (.ref la), .val (.ref na), .val .null] [(.ref b2), (.ref xa)])) rfl rfl (hb hby d4_12)
  refine Own.go st19 ?_
  have f20 := f13.same W19
  have N19 := Fr.snoc X19 N11 gx
  have Z19 : n0 ≤ h19.size := by rw [W19.size]; exact Z11
  have f21 := f12.wr W19
  have f22 := f14.other W19 (Or.inr (slot_ne (Or.inr (hw _ (List.mem_of_getElem? (i := 81) rfl))) (Or.inr (hw _ (List.mem_of_getElem? (i := 61) rfl))) (by decide) (t := (.object "java/lang/StringBuilder")) (t' := (.object "java/util/List")) (by decide) (by decide)))
  have f23 := f15.other W19 (Or.inr (slot_ne (Or.inr (hw _ (List.mem_of_getElem? (i := 83) rfl))) (Or.inr (hw _ (List.mem_of_getElem? (i := 61) rfl))) (by decide) (t := (.object "com/example/loomwright/loomwright/config/Location")) (t' := (.object "java/util/List")) (by decide) (by decide)))
  have f24 := f16.other W19 (Or.inr (slot_ne (Or.inr (hw _ (List.mem_of_getElem? (i := 85) rfl))) (Or.inr (hw _ (List.mem_of_getElem? (i := 61) rfl))) (by decide) (t := (.object "java/lang/String")) (t' := (.object "java/util/List")) (by decide) (by decide)))
  have f25 := f17.other W19 (Or.inr (slot_ne (Or.inr (hw _ (List.mem_of_getElem? (i := 87) rfl))) (Or.inr (hw _ (List.mem_of_getElem? (i := 61) rfl))) (by decide) (t := (.object "java/util/Map")) (t' := (.object "java/util/List")) (by decide) (by decide)))
  have f26 := f18.wr W19
  have K19 := KK11.wr W19 (Or.inl (List.mem_cons_self ..))
  have O19 := O11.wr W19 gx
  show Own.Fin p e below (T19.setTop (mkF m 15 #[.val (.ref xa), .val (.ref la), .val (.ref na), .val .null] [])) _
  refine Own.go (fun t k => XS.aloadN X19.here hx rfl (hb hby d4_15) rfl rfl k) ?_
  show Own.Fin p e below (T19.setTop (mkF m 16 #[.val (.ref xa), .val (.ref la), .val (.ref na), .val .null] [(.ref xa)])) _
  obtain ⟨T27, h27, X27, e27, E27, A27, D27, -, st27⟩ := newO X19 hx hZ hown (hw _ (List.mem_of_getElem? (i := 62) rfl)) (hw _ (List.mem_of_getElem? (i := 63) rfl)) (hw _ (List.mem_of_getElem? (i := 64) rfl)) e19 (g := (mkF m 16 #[.val (.ref xa), .val (.ref la), .val (.ref na), .val .null] [(.ref xa)])) rfl (hb hby d4_16) (by decide) (by decide)
  obtain ⟨b27, gb27⟩ : ∃ z, z = h19.size := ⟨_, rfl⟩
  rw [← gb27] at A27 D27 st27
  refine Own.go st27 ?_
  have ge27 : n0 ≤ b27 := by rw [gb27]; exact Z19
  have sz_b27 : h0.size ≤ b27 := Nat.le_trans K19.1 (Nat.le_of_eq gb27.symm)
  have ne27_b2 : b2 ≠ b27 := Nat.ne_of_lt (Nat.lt_of_lt_of_le f26.lt (Nat.le_of_eq gb27.symm))
  have ne27_xa : xa ≠ b27 := Nat.ne_of_lt (Nat.lt_of_lt_of_le f21.lt (Nat.le_of_eq gb27.symm))
  have Z27 : n0 ≤ h27.size := Nat.le_trans Z19 E27.1
  have f28 := f21.ext E27
  have f29 := f20.ext E27
  have f30 := f22.ext E27
  have f31 := f23.ext E27
  have f32 := f24.ext E27
  have f33 := f25.ext E27
  have f34 := f26.ext E27
  have K27 := K19.ext E27
  have O27 := O19.ext E27
  have fl35 : Fld Z h27 b27 "java/lang/AbstractStringBuilder" "value" "[B" .null := D27 (Or.inl (hw _ (List.mem_of_getElem? (i := 77) rfl))) (ty := (.array .byte)) (by decide)
  have fl36 : Fld Z h27 b27 "java/lang/AbstractStringBuilder" "coder" "B" (.int (0 : Int32)) := D27 (Or.inl (hw _ (List.mem_of_getElem? (i := 79) rfl))) (ty := .byte) (by decide)
  have fl37 : Fld Z h27 b27 "java/lang/AbstractStringBuilder" "count" "I" (.int (0 : Int32)) := D27 (Or.inl (hw _ (List.mem_of_getElem? (i := 110) rfl))) (ty := .int) (by decide)
  have fl38 : Fld Z h27 b27 "java/lang/AbstractStringBuilder" "maybeLatin1" "Z" (.int (0 : Int32)) := D27 (Or.inl (hw _ (List.mem_of_getElem? (i := 269) rfl))) (ty := .boolean) (by decide)
  show Own.Fin p e below (T27.setTop (mkF m 19 #[.val (.ref xa), .val (.ref la), .val (.ref na), .val .null] [(.ref b27), (.ref xa)])) _
  refine Own.go (fun t k => XS.dup X27.here hx rfl (hb hby d4_19) rfl rfl k) ?_
  show Own.Fin p e below (T27.setTop (mkF m 20 #[.val (.ref xa), .val (.ref la), .val (.ref na), .val .null] [(.ref b27), (.ref b27), (.ref xa)])) _
  refine Own.cI X27 hx hZ rfl hown (hw _ (List.mem_of_getElem? (i := 65) rfl)) (hw _ (List.mem_of_getElem? (i := 66) rfl)) (hw _ (List.mem_of_getElem? (i := 64) rfl)) (hw _ (List.mem_of_getElem? (i := 67) rfl)) (by decide) (rm8 l Z a0 hw [] b27 cs h27 n0 Z27 O27 SC hcs A27 fl35 fl36 fl37 fl38 ge27) (by decide) (W := 2) (by decide) (argsL := []) (rest := [(.ref b27), (.ref xa)]) (by rw [hml]; rfl) (lenOf pd_15 rfl) rfl (Nat.le_of_eq rfl) (hb hby d4_20) e27 (by decide) (by decide) ?_
  intro T39 L39 v39 X39 hQ39
  obtain ⟨va39, rfl, N39q, K39q, ge39, hov39, szv39, hR39⟩ := hQ39
  have N39 := Fr.app N19 N39q
  have ne39_xa : xa ≠ va39 := Nat.ne_of_lt (Nat.lt_of_lt_of_le f28.lt szv39)
  have sz_va39 : h0.size ≤ va39 := Nat.le_trans K27.1 szv39
  have f40 := f28.keep K39q
  have f41 := f29.keep K39q (ninS ne27_xa nin0)
  have f42 := f30.keep K39q (ninS ne27_xa nin0)
  have f43 := f31.keep K39q (ninS ne27_xa nin0)
  have f44 := f32.keep K39q (ninS ne27_xa nin0)
  have f45 := f33.keep K39q (ninS ne27_xa nin0)
  have f46 := f34.keep K39q
  have f47 := A27.keep K39q
  have Z39 : n0 ≤ T39.heap.size := Nat.le_trans Z27 K39q.1
  have KK39 := K27.trans K39q (allS (Or.inr sz_b27) all0)
  have O39 := O27.keep K39q (allS ge27 all0)
  show Own.Fin p e below (T39.setTop (mkF m 23 #[.val (.ref xa), .val (.ref la), .val (.ref na), .val .null] [(.ref b27), (.ref xa)])) _
  obtain ⟨T48, h48, X48, e48, W48, st48⟩ := putF X39 hx hZ hown (host := "") (Or.inl (hw _ (List.mem_of_getElem? (i := 80) rfl))) Via.refl rfl f42 f40 (Or.inr ⟨(hw _ (List.mem_of_getElem? (i := 81) rfl)), rfl, hnm⟩) (hw _ (List.mem_of_getElem? (i := 3) rfl)) (ty := (.object "java/lang/StringBuilder")) (by decide) rfl rfl (g := (mkF m 23 #[.val (.ref xa), .val (.ref la), .val (.ref na), .val .null] [(.ref b27), (.ref xa)])) rfl rfl (hb hby d4_23)
  refine Own.go st48 ?_
  have f49 := f42.same W48
  have N48 := Fr.snoc X48 N39 gx
  have Z48 : n0 ≤ h48.size := by rw [W48.size]; exact Z39
  have f50 := f40.wr W48
  have f51 := f41.other W48 (Or.inr (slot_ne (Or.inr (hw _ (List.mem_of_getElem? (i := 61) rfl))) (Or.inr (hw _ (List.mem_of_getElem? (i := 81) rfl))) (by decide) (t := (.object "java/util/List")) (t' := (.object "java/lang/StringBuilder")) (by decide) (by decide)))
  have f52 := f43.other W48 (Or.inr (slot_ne (Or.inr (hw _ (List.mem_of_getElem? (i := 83) rfl))) (Or.inr (hw _ (List.mem_of_getElem? (i := 81) rfl))) (by decide) (t := (.object "com/example/loomwright/loomwright/config/Location")) (t' := (.object "java/lang/StringBuilder")) (by decide) (by decide)))
  have f53 := f44.other W48 (Or.inr (slot_ne (Or.inr (hw _ (List.mem_of_getElem? (i := 85) rfl))) (Or.inr (hw _ (List.mem_of_getElem? (i := 81) rfl))) (by decide) (t := (.object "java/lang/String")) (t' := (.object "java/lang/StringBuilder")) (by decide) (by decide)))
  have f54 := f45.other W48 (Or.inr (slot_ne (Or.inr (hw _ (List.mem_of_getElem? (i := 87) rfl))) (Or.inr (hw _ (List.mem_of_getElem? (i := 81) rfl))) (by decide) (t := (.object "java/util/Map")) (t' := (.object "java/lang/StringBuilder")) (by decide) (by decide)))
  have f55 := f46.wr W48
  have f56 := f47.wr W48
  have f57 := hR39.wr W48 (Ne.symm ne27_xa) (Ne.symm ne39_xa)
  have K48 := KK39.wr W48 (Or.inl (List.mem_cons_self ..))
  have O48 := O39.wr W48 gx
  show Own.Fin p e below (T48.setTop (mkF m 26 #[.val (.ref xa), .val (.ref la), .val (.ref na), .val .null] [])) _
  refine Own.go (fun t k => XS.aloadN X48.here hx rfl (hb hby d4_26) rfl rfl k) ?_
  show Own.Fin p e below (T48.setTop (mkF m 27 #[.val (.ref xa), .val (.ref la), .val (.ref na), .val .null] [(.ref xa)])) _
  refine Own.go (fun t k => XS.aloadN X48.here hx rfl (hb hby d4_27) rfl rfl k) ?_
  show Own.Fin p e below (T48.setTop (mkF m 28 #[.val (.ref xa), .val (.ref la), .val (.ref na), .val .null] [(.ref la), (.ref xa)])) _
  obtain ⟨T58, h58, X58, e58, W58, st58⟩ := putF X48 hx hZ hown (host := "") (Or.inl (hw _ (List.mem_of_getElem? (i := 82) rfl))) Via.refl e48 f52 f50 (Or.inr ⟨(hw _ (List.mem_of_getElem? (i := 83) rfl)), rfl, hnm⟩) (hw _ (List.mem_of_getElem? (i := 3) rfl)) (ty := (.object "com/example/loomwright/loomwright/config/Location")) (by decide) rfl rfl (g := (mkF m 28 #[.val (.ref xa), .val (.ref la), .val (.ref na), .val .null] [(.ref la), (.ref xa)])) rfl rfl (hb hby d4_28)
  refine Own.go st58 ?_
  have f59 := f52.same W58
  have N58 := Fr.snoc X58 N48 gx
  have Z58 : n0 ≤ h58.size := by rw [W58.size]; exact Z48
  have f60 := f50.wr W58
  have f61 := f51.other W58 (Or.inr (slot_ne (Or.inr (hw _ (List.mem_of_getElem? (i := 61) rfl))) (Or.inr (hw _ (List.mem_of_getElem? (i := 83) rfl))) (by decide) (t := (.object "java/util/List")) (t' := (.object "com/example/loomwright/loomwright/config/Location")) (by decide) (by decide)))
  have f62 := f49.other W58 (Or.inr (slot_ne (Or.inr (hw _ (List.mem_of_getElem? (i := 81) rfl))) (Or.inr (hw _ (List.mem_of_getElem? (i := 83) rfl))) (by decide) (t := (.object "java/lang/StringBuilder")) (t' := (.object "com/example/loomwright/loomwright/config/Location")) (by decide) (by decide)))
  have f63 := f53.other W58 (Or.inr (slot_ne (Or.inr (hw _ (List.mem_of_getElem? (i := 85) rfl))) (Or.inr (hw _ (List.mem_of_getElem? (i := 83) rfl))) (by decide) (t := (.object "java/lang/String")) (t' := (.object "com/example/loomwright/loomwright/config/Location")) (by decide) (by decide)))
  have f64 := f54.other W58 (Or.inr (slot_ne (Or.inr (hw _ (List.mem_of_getElem? (i := 87) rfl))) (Or.inr (hw _ (List.mem_of_getElem? (i := 83) rfl))) (by decide) (t := (.object "java/util/Map")) (t' := (.object "com/example/loomwright/loomwright/config/Location")) (by decide) (by decide)))
  have f65 := f55.wr W58
  have f66 := f56.wr W58
  have f67 := f57.wr W58 (Ne.symm ne27_xa) (Ne.symm ne39_xa)
  have K58 := K48.wr W58 (Or.inl (List.mem_cons_self ..))
  have O58 := O48.wr W58 gx
  show Own.Fin p e below (T58.setTop (mkF m 31 #[.val (.ref xa), .val (.ref la), .val (.ref na), .val .null] [])) _
  refine Own.go (fun t k => XS.aloadN X58.here hx rfl (hb hby d4_31) rfl rfl k) ?_
  show Own.Fin p e below (T58.setTop (mkF m 32 #[.val (.ref xa), .val (.ref la), .val (.ref na), .val .null] [(.ref xa)])) _
  refine Own.go (fun t k => XS.aloadN X58.here hx rfl (hb hby d4_32) rfl rfl k) ?_
  show Own.Fin p e below (T58.setTop (mkF m 33 #[.val (.ref xa), .val (.ref la), .val (.ref na), .val .null] [(.ref na), (.ref xa)])) _
  obtain ⟨T68, h68, X68, e68, W68, st68⟩ := putF X58 hx hZ hown (host := "") (Or.inl (hw _ (List.mem_of_getElem? (i := 84) rfl))) Via.refl e58 f63 f60 (Or.inr ⟨(hw _ (List.mem_of_getElem? (i := 85) rfl)), rfl, hnm⟩) (hw _ (List.mem_of_getElem? (i := 3) rfl)) (ty := (.object "java/lang/String")) (by decide) rfl rfl (g := (mkF m 33 #[.val (.ref xa), .val (.ref la), .val (.ref na), .val .null] [(.ref na), (.ref xa)])) rfl rfl (hb hby d4_33)
  refine Own.go st68 ?_
  have f69 := f63.same W68
  have N68 := Fr.snoc X68 N58 gx
  have Z68 : n0 ≤ h68.size := by rw [W68.size]; exact Z58
  have f70 := f60.wr W68
  have f71 := f61.other W68 (Or.inr (slot_ne (Or.inr (hw _ (List.mem_of_getElem? (i := 61) rfl))) (Or.inr (hw _ (List.mem_of_getElem? (i := 85) rfl))) (by decide) (t := (.object "java/util/List")) (t' := (.object "java/lang/String")) (by decide) (by decide)))
  have f72 := f62.other W68 (Or.inr (slot_ne (Or.inr (hw _ (List.mem_of_getElem? (i := 81) rfl))) (Or.inr (hw _ (List.mem_of_getElem? (i := 85) rfl))) (by decide) (t := (.object "java/lang/StringBuilder")) (t' := (.object "java/lang/String")) (by decide) (by decide)))
  have f73 := f59.other W68 (Or.inr (slot_ne (Or.inr (hw _ (List.mem_of_getElem? (i := 83) rfl))) (Or.inr (hw _ (List.mem_of_getElem? (i := 85) rfl))) (by decide) (t := (.object "com/example/loomwright/loomwright/config/Location")) (t' := (.object "java/lang/String")) (by decide) (by decide)))
  have f74 := f64.other W68 (Or.inr (slot_ne (Or.inr (hw _ (List.mem_of_getElem? (i := 87) rfl))) (Or.inr (hw _ (List.mem_of_getElem? (i := 85) rfl))) (by decide) (t := (.object "java/util/Map")) (t' := (.object "java/lang/String")) (by decide) (by decide)))
  have f75 := f65.wr W68
  have f76 := f66.wr W68
  have f77 := f67.wr W68 (Ne.symm ne27_xa) (Ne.symm ne39_xa)
  have K68 := K58.wr W68 (Or.inl (List.mem_cons_self ..))
  have O68 := O58.wr W68 gx
  show Own.Fin p e below (T68.setTop (mkF m 36 #[.val (.ref xa), .val (.ref la), .val (.ref na), .val .null] [])) _
  refine Own.go (fun t k => XS.aloadN X68.here hx rfl (hb hby d4_36) rfl rfl k) ?_
  show Own.Fin p e below (T68.setTop (mkF m 37 #[.val (.ref xa), .val (.ref la), .val (.ref na), .val .null] [(.ref xa)])) _
  refine Own.go (fun t k => XS.aloadN X68.here hx rfl (hb hby d4_37) rfl rfl k) ?_
  show Own.Fin p e below (T68.setTop (mkF m 38 #[.val (.ref xa), .val (.ref la), .val (.ref na), .val .null] [.null, (.ref xa)])) _
  obtain ⟨T78, h78, X78, e78, W78, st78⟩ := putF X68 hx hZ hown (host := "") (Or.inl (hw _ (List.mem_of_getElem? (i := 86) rfl))) Via.refl e68 f74 f70 (Or.inr ⟨(hw _ (List.mem_of_getElem? (i := 87) rfl)), rfl, hnm⟩) (hw _ (List.mem_of_getElem? (i := 3) rfl)) (ty := (.object "java/util/Map")) (by decide) rfl rfl (g := (mkF m 38 #[.val (.ref xa), .val (.ref la), .val (.ref na), .val .null] [.null, (.ref xa)])) rfl rfl (hb hby d4_38)
  refine Own.go st78 ?_
  have f79 := f74.same W78
  have N78 := Fr.snoc X78 N68 gx
  have Z78 : n0 ≤ h78.size := by rw [W78.size]; exact Z68
  have f80 := f70.wr W78
  have f81 := f71.other W78 (Or.inr (slot_ne (Or.inr (hw _ (List.mem_of_getElem? (i := 61) rfl))) (Or.inr (hw _ (List.mem_of_getElem? (i := 87) rfl))) (by decide) (t := (.object "java/util/List")) (t' := (.object "java/util/Map")) (by decide) (by decide)))
  have f82 := f72.other W78 (Or.inr (slot_ne (Or.inr (hw _ (List.mem_of_getElem? (i := 81) rfl))) (Or.inr (hw _ (List.mem_of_getElem? (i := 87) rfl))) (by decide) (t := (.object "java/lang/StringBuilder")) (t' := (.object "java/util/Map")) (by decide) (by decide)))
  have f83 := f73.other W78 (Or.inr (slot_ne (Or.inr (hw _ (List.mem_of_getElem? (i := 83) rfl))) (Or.inr (hw _ (List.mem_of_getElem? (i := 87) rfl))) (by decide) (t := (.object "com/example/loomwright/loomwright/config/Location")) (t' := (.object "java/util/Map")) (by decide) (by decide)))
  have f84 := f69.other W78 (Or.inr (slot_ne (Or.inr (hw _ (List.mem_of_getElem? (i := 85) rfl))) (Or.inr (hw _ (List.mem_of_getElem? (i := 87) rfl))) (by decide) (t := (.object "java/lang/String")) (t' := (.object "java/util/Map")) (by decide) (by decide)))
  have f85 := f75.wr W78
  have f86 := f76.wr W78
  have f87 := f77.wr W78 (Ne.symm ne27_xa) (Ne.symm ne39_xa)
  have K78 := K68.wr W78 (Or.inl (List.mem_cons_self ..))
  have O78 := O68.wr W78 gx
  show Own.Fin p e below (T78.setTop (mkF m 41 #[.val (.ref xa), .val (.ref la), .val (.ref na), .val .null] [])) _
  refine Own.retV X78 hx Bd.notSynchronized Bd.returns (hb hby d4_41) (by decide) (by decide) ?_
  exact ⟨b27, va39, rfl, N78, by rw [e78]; exact K78, ge27, ge39, sz_b27, sz_va39, hov39, by rw [e78]; exact f82, by rw [e78]; exact f87⟩
def PostW (s : State) (K : Option Value → Heap → List Loc → Prop) (cc ss : Nat) (o : Outcome) (U : State) : Prop :=
  ∃ v L, o = .returned v ∧ K v U.heap L ∧ ReturnedEndW s o U L cc ss
theorem retNW {p : Program} {l : Launch} {e : Env} {R : Room} {s : State} {vm1 : Vm} {m : MethodId} {args : Array Value} {below : List Frame} {meth : Method} {c : Code} {T : State} {locs : List Loc} {cells slots : Nat} (X : Stand p l e R (s.setVm vm1) m args below meth c T locs cells slots) {k1 : Nat} (hS : s.Since vm1 k1) (hk1 : k1 ≤ T.heap.size) (hx : p.tables.exec = Jvm.exec) (hlk : meth.locks = false) {t : FieldType} (hret : meth.sig.returnType = some t) (ht : t = .boolean ∨ t = .byte ∨ t = .char ∨ t = .short) {pc : Nat} {Ls : Array Slot} {z : Int32} {rest : List Value} (hd : decode c.code pc = .ok (.ireturn, 1))
    {K : Option Value → Heap → List Loc → Prop} {cc ss : Nat} (hc : cells ≤ cc) (hs : slots ≤ ss) (hk : K (some (.int (nar t z))) T.heap locs) : Own.Fin p e below (T.setTop (mkF m pc Ls (.int z :: rest))) (PostW s K cc ss) := by
  obtain ⟨fs, hr, hrun, hended, e1, e2, e3, e4⟩ := X.leaveW hS hk1 (v := some (.int (nar t z))) (fun h => by rw [hret] at h; cases h) hlk
  exact ⟨_, _, RoadKit.retN X hx hret ht hd hr, hrun, hended, _, _, rfl, hk, e1, e2, e3, e4.mono hc hs⟩
theorem own_rem (x : Int32) (d : Nat) (hd : 0 < d) (hd5 : d < 100) : ∃ n, n < d ∧ ((x &&& (2147483647 : Int32)) - ((x &&& (2147483647 : Int32)) / Int32.ofNat d) * Int32.ofNat d) = Int32.ofNat n := by
  have a := (c_and x (2147483647 : Int32) (by decide)).1
  have e : (Int32.ofNat d).toInt = d := Int32.toInt_ofNat_small (by omega)
  have b := (c_iremV (x &&& (2147483647 : Int32)) (Int32.ofNat d)).1 a (by omega)
  have b1 := b.1
  have b2 := b.2.1
  rw [irem_eq_mod]
  refine ⟨((x &&& (2147483647 : Int32)) % Int32.ofNat d).toInt.toNat, by omega, ?_⟩
  apply Int32.toInt_inj.mp
  rw [Int32.toInt_ofNat_small (by omega)]
  omega
theorem own_nz (s : Nat) (h : s < 5) : Int32.ofNat (5 - s) ≠ 0 := by
  have q : ∀ s < 5, Int32.ofNat (5 - s) ≠ 0 := by decide +kernel
  exact q s h
theorem own_nar (x : Int32) : ∃ c, c < 65536 ∧ nar .char x = Int32.ofNat c := by
  have a := c_i2c x
  refine ⟨(x.toUInt32.toUInt16.toUInt32.toInt32).toInt.toNat, by omega, ?_⟩
  show x.toUInt32.toUInt16.toUInt32.toInt32 = _
  apply Int32.toInt_inj.mp
  rw [Int32.toInt_ofNat_small (by omega)]
  omega
theorem own_cc {Z : State} {h : Heap} {a : Addr} {k : ClassId} {x0 x1 x2 x3 : Int32} (V : Arv Z h a k .char (4 : Int32) [.int (nar .char x0), .int (nar .char x1), .int (nar .char x2), .int (nar .char x3)] (.int (0 : Int32))) :
    ∃ cc : Nat → Nat, (∀ i, cc i < 65536) ∧ Arv Z h a k .char (4 : Int32) (tab 4 (fun i => Value.int (Int32.ofNat (cc i)))) (.int (0 : Int32)) := by
  obtain ⟨c0, h0, e0⟩ := own_nar x0
  obtain ⟨c1, h1, e1⟩ := own_nar x1
  obtain ⟨c2, h2, e2⟩ := own_nar x2
  obtain ⟨c3, h3, e3⟩ := own_nar x3
  rw [e0, e1, e2, e3] at V
  refine ⟨fun i => if i = 0 then c0 else if i = 1 then c1 else if i = 2 then c2 else c3, fun i => ?_, V⟩
  dsimp only
  split
  · exact h0
  · split
    · exact h1
    · split
      · exact h2
      · exact h3
theorem own_cp {Z : State} {h : Heap} {a : Addr} {k : ClassId} {cc : Nat → Nat} (hcc : ∀ i, cc i < 65536) (V : Arv Z h a k .char (4 : Int32) [.int (nar .char (Int32.ofNat (cc 0))), .int (nar .char (Int32.ofNat (cc 1))), .int (nar .char (Int32.ofNat (cc 2))), .int (nar .char (Int32.ofNat (cc 3)))] (.int (0 : Int32))) :
    Arv Z h a k .char (4 : Int32) (tab 4 (fun i => Value.int (Int32.ofNat (cc i)))) (.int (0 : Int32)) := by
  rw [own_nc _ (hcc 0), own_nc _ (hcc 1), own_nc _ (hcc 2), own_nc _ (hcc 3)] at V; exact V
theorem own_b1 {s l : Nat} (h : s < 5) (h2 : l < 5 - s) : s + l ≤ 4 := by omega
theorem own_b2 {s l s' l' : Nat} (h : s + l ≤ 4) (h2 : s' + l' ≤ 4) : l + l' ≤ 8 := by omega
theorem own_b3 {s l s' l' : Nat} (h2 : s' + l' ≤ 4) : s' + (l + l' - l) ≤ 4 := by omega
theorem own_b4 {s l : Nat} (h : s + l ≤ 4) : 0 + (s + l - s) ≤ 16 := by omega
theorem own_b5 {s l s' l' : Nat} (h : s + l ≤ 4) (h2 : s' + l' ≤ 4) : l + (s' + l' - s') ≤ 16 := by omega
theorem own_b6 (s l : Nat) : 0 + (s + l - s) = l := by omega
theorem own_b7 (n s l : Nat) : n + (s + l - s) = n + l := by omega
theorem pd_31 : parseMethodDescriptor "(Lcom/example/loomwright/loomwright/config/Location;Ljava/lang/String;Ljava/util/Map;)V" = some ⟨[(.object "com/example/loomwright/loomwright/config/Location"), (.object "java/lang/String"), (.object "java/util/Map")], none⟩ := by decide +kernel
theorem pd_30 : parseMethodDescriptor "(Ljava/lang/String;I)V" = some ⟨[(.object "java/lang/String"), .int], none⟩ := by decide +kernel
theorem pd_32 : parseMethodDescriptor "(Ljava/lang/String;I[CIII)Z" = some ⟨[(.object "java/lang/String"), .int, (.array .char), .int, .int, .int], some .boolean⟩ := by decide +kernel
theorem pn_0 : plainName "com/example/loomwright/loomwright/rule/XmlElementAppendTextPinLaw" = true := by first | (simp [plainName, overriddenIn]; done) | decide +kernel
theorem ef_0 (m : MethodId) (p0 : Int32) (p1 : Int32) (p2 : Int32) (p3 : Int32) (p4 : Int32) (p5 : Int32)  : entryFrame m #[(.int p0), (.int p1), (.int p2), (.int p3), (.int p4), (.int p5)] maxLocals = mkF m 0 #[.val (.int p0), .val (.int p1), .val (.int p2), .val (.int p3), .val (.int p4), .val (.int p5), .unset, .unset, .unset, .unset, .unset, .unset, .unset, .unset] [] := by first | (simp [entryFrame, mkF, argsToLocals, Value.category, maxLocals]; done) | rfl
def Q0 (Z : State) (p0 : Int32) (p1 : Int32) (p2 : Int32) (p3 : Int32) (p4 : Int32) (p5 : Int32) (cs : Int32) (fs_ fi_ : Value) (fe_ : Addr) (h0 : Heap) (n0 : Nat) : Option Value → Heap → List Loc → Prop := fun v h L => v = some (.int 1) ∧ Fr n0 L
set_option maxRecDepth 65536 in
set_option maxHeartbeats 40000000 in
theorem rm0 (l : Launch) (Z : State) (a0 : Array Value) (hw : ∀ d ∈ tables_1, d.before a0 Z = true) (ws : List Jvm.Cond) (p0 : Int32) (p1 : Int32) (p2 : Int32) (p3 : Int32) (p4 : Int32) (p5 : Int32) (cs : Int32) (fs_ fi_ : Value) (fe_ : Addr) (h0 : Heap) (n0 : Nat) (Z0 : n0 ≤ h0.size) (O0 : Old Z n0 h0) (SC : Sta Z Z.heap "java/lang/String" "COMPACT_STRINGS" "Z" (.int cs)) (SD : Sta Z Z.heap "java/lang/StringUTF16" "$assertionsDisabled" "Z" (.int (1 : Int32))) (SH : Sta Z Z.heap "java/lang/StringUTF16" "HI_BYTE_SHIFT" "I" (.int (0 : Int32))) (SL : Sta Z Z.heap "java/lang/StringUTF16" "LO_BYTE_SHIFT" "I" (.int (8 : Int32))) (SF : Sta Z Z.heap "jdk/internal/util/Preconditions" "SIOOBE_FORMATTER" "Ljava/util/function/BiFunction;" fs_) (SI : Sta Z Z.heap "jdk/internal/util/Preconditions" "IOOBE_FORMATTER" "Ljava/util/function/BiFunction;" fi_) (SE : Sta Z Z.heap "java/util/ArrayList" "DEFAULTCAPACITY_EMPTY_ELEMENTDATA" "[Ljava/lang/Object;" (.ref fe_)) (hcs : ¬ cs = (0 : Int32)) (hc_s : fs_.category = 1) (hc_i : fi_.category = 1) :
    MetFree l x (head1 (Jvm.Cond.code x code maxLocals ret :: ws) room_1) (fun a U => a = #[(.int p0), (.int p1), (.int p2), (.int p3), (.int p4), (.int p5)] ∧ Z.Warmed39 U.vm ∧ U.heap = h0) (fun _ _ _ _ _ => True) (fun _ U o U' => ∃ v L, o = .returned v ∧ (Q0 Z p0 p1 p2 p3 p4 p5 cs fs_ fi_ fe_ h0 n0) v U'.heap L ∧ ReturnedEndW U o U' L room_1.cells room_1.slots) := by
  refine MetFree.of_bodySF (plainFor_of_name pn_0) hisR ?_
  intro p e s m args below meth c s₁ Bd hml0 hP hK
  obtain ⟨rfl, hZ, hh⟩ := hP
  have hx := Bd.exec
  have hby := Bd.bytes
  have hml : c.maxLocals = 14 := hml0
  have hown : s.vm.findClass "com/example/loomwright/loomwright/rule/XmlElementAppendTextPinLaw" = some m.cls := findClass_of_methodNamed Bd.named
  have hnm := (name_of_methodNamed Bd.named Bd.method).1
  have X0 : Stand p l e room_1 s m #[(.int p0), (.int p1), (.int p2), (.int p3), (.int p4), (.int p5)] below meth c s₁ [] 0 0 := Stand.of_body Bd
  have e0 : s₁.heap = h0 := by rw [← hh, Bd.state]; rfl
  have N0 := Fr.nil n0
  show Own.Fin p e below _ (PostW s (Q0 Z p0 p1 p2 p3 p4 p5 cs fs_ fi_ fe_ h0 n0) room_1.cells room_1.slots)
  refine Own.start (ef_0 m p0 p1 p2 p3 p4 p5) ?_
  have XW : Stand p l e room_1 (s.setVm s.vm) m #[(.int p0), (.int p1), (.int p2), (.int p3), (.int p4), (.int p5)] below meth c s₁ [] 0 0 := X0
  have hZ : Z.Warmed39 (s.setVm s.vm).vm := hZ
  have hown : (s.setVm s.vm).vm.findClass "com/example/loomwright/loomwright/rule/XmlElementAppendTextPinLaw" = some m.cls := hown
  have hS0 : s.Since s.vm 0 := (State.WarmedH.refl s).since 0
  have wS : ∀ a ∈ Bundle.stringAtoms, a.before a0 Z = true := fun d hd => by
    simp only [Bundle.stringAtoms, List.mem_cons, List.not_mem_nil, or_false] at hd
    rcases hd with rfl | rfl | rfl | rfl | rfl | rfl | rfl
    · exact (hw _ (List.mem_of_getElem? (i := 9) rfl))
    · exact (hw _ (List.mem_of_getElem? (i := 10) rfl))
    · exact (hw _ (List.mem_of_getElem? (i := 11) rfl))
    · exact (hw _ (List.mem_of_getElem? (i := 12) rfl))
    · exact (hw _ (List.mem_of_getElem? (i := 13) rfl))
    · exact (hw _ (List.mem_of_getElem? (i := 14) rfl))
    · exact (hw _ (List.mem_of_getElem? (i := 15) rfl))
  show Own.Fin p e below (s₁.setTop (mkF m 0 #[.val (.int p0), .val (.int p1), .val (.int p2), .val (.int p3), .val (.int p4), .val (.int p5), .unset, .unset, .unset, .unset, .unset, .unset, .unset, .unset] [])) _
  refine Own.go (fun t k => XS.iconst XW.here hx rfl (hb hby at_0) k) ?_
  show Own.Fin p e below (s₁.setTop (mkF m 1 #[.val (.int p0), .val (.int p1), .val (.int p2), .val (.int p3), .val (.int p4), .val (.int p5), .unset, .unset, .unset, .unset, .unset, .unset, .unset, .unset] [(.int (4 : Int32))])) _
  refine Own.newA XW hx hZ (hw _ (List.mem_of_getElem? (i := 0) rfl)) e0 (hb hby at_1) (by decide) 4 (by decide) (by decide) (by decide) (by decide) ?_
  intro T1 h1 b1 k1 X1 e1 E1 gb1 V1
  have ge1 : n0 ≤ b1 := by rw [gb1]; exact Z0
  have Z1 : n0 ≤ h1.size := Nat.le_trans Z0 E1.1
  have O1 := O0.ext E1
  have Vp1 : Arv Z h1 b1 k1 .char (4 : Int32) [(.int (0 : Int32)), (.int (0 : Int32)), (.int (0 : Int32)), (.int (0 : Int32))] (.int (0 : Int32)) := Arv.pad V1 (pad_rep [] (.int (0 : Int32)) 4)
  show Own.Fin p e below (T1.setTop (mkF m 3 #[.val (.int p0), .val (.int p1), .val (.int p2), .val (.int p3), .val (.int p4), .val (.int p5), .unset, .unset, .unset, .unset, .unset, .unset, .unset, .unset] [(.ref b1)])) _
  refine Own.go (fun t k => XS.astore X1.here hx rfl (hb hby at_3) rfl rfl (l' := #[.val (.int p0), .val (.int p1), .val (.int p2), .val (.int p3), .val (.int p4), .val (.int p5), .val (.ref b1), .unset, .unset, .unset, .unset, .unset, .unset, .unset]) rfl k) ?_
  show Own.Fin p e below (T1.setTop (mkF m 5 #[.val (.int p0), .val (.int p1), .val (.int p2), .val (.int p3), .val (.int p4), .val (.int p5), .val (.ref b1), .unset, .unset, .unset, .unset, .unset, .unset, .unset] [])) _
  refine Own.go (fun t k => XS.aload X1.here hx rfl (hb hby at_5) rfl rfl k) ?_
  show Own.Fin p e below (T1.setTop (mkF m 7 #[.val (.int p0), .val (.int p1), .val (.int p2), .val (.int p3), .val (.int p4), .val (.int p5), .val (.ref b1), .unset, .unset, .unset, .unset, .unset, .unset, .unset] [(.ref b1)])) _
  refine Own.go (fun t k => XS.iconst X1.here hx rfl (hb hby at_7) k) ?_
  show Own.Fin p e below (T1.setTop (mkF m 8 #[.val (.int p0), .val (.int p1), .val (.int p2), .val (.int p3), .val (.int p4), .val (.int p5), .val (.ref b1), .unset, .unset, .unset, .unset, .unset, .unset, .unset] [(.int (0 : Int32)), (.ref b1)])) _
  refine Own.go (fun t k => XS.iloadN X1.here hx rfl (hb hby at_8) rfl k) ?_
  show Own.Fin p e below (T1.setTop (mkF m 9 #[.val (.int p0), .val (.int p1), .val (.int p2), .val (.int p3), .val (.int p4), .val (.int p5), .val (.ref b1), .unset, .unset, .unset, .unset, .unset, .unset, .unset] [(.int p0), (.int (0 : Int32)), (.ref b1)])) _
  refine Own.go (fun t k => XS.i2c X1.here hx rfl (hb hby at_9) rfl k) ?_
  show Own.Fin p e below (T1.setTop (mkF m 10 #[.val (.int p0), .val (.int p1), .val (.int p2), .val (.int p3), .val (.int p4), .val (.int p5), .val (.ref b1), .unset, .unset, .unset, .unset, .unset, .unset, .unset] [(.int ((p0).toUInt32.toUInt16.toUInt32.toInt32)), (.int (0 : Int32)), (.ref b1)])) _
  refine Own.stC X1 hx hZ e1 Vp1 (hb hby at_10) ⟨by decide, by decide⟩ 0 rfl (Nat.le_of_ble_eq_true rfl) ?_
  intro T2 h2 X2 e2 W2 V2
  have N2 := Fr.snoc X2 N0 ge1
  have Z2 : n0 ≤ h2.size := by rw [W2.size]; exact Z1
  have O2 := O1.wr W2 ge1
  have Vq2 : Arv Z h2 b1 k1 .char (4 : Int32) [(.int (nar .char ((p0).toUInt32.toUInt16.toUInt32.toInt32))), (.int (0 : Int32)), (.int (0 : Int32)), (.int (0 : Int32))] (.int (0 : Int32)) := V2
  show Own.Fin p e below (T2.setTop (mkF m 11 #[.val (.int p0), .val (.int p1), .val (.int p2), .val (.int p3), .val (.int p4), .val (.int p5), .val (.ref b1), .unset, .unset, .unset, .unset, .unset, .unset, .unset] [])) _
  refine Own.go (fun t k => XS.aload X2.here hx rfl (hb hby at_11) rfl rfl k) ?_
  show Own.Fin p e below (T2.setTop (mkF m 13 #[.val (.int p0), .val (.int p1), .val (.int p2), .val (.int p3), .val (.int p4), .val (.int p5), .val (.ref b1), .unset, .unset, .unset, .unset, .unset, .unset, .unset] [(.ref b1)])) _
  refine Own.go (fun t k => XS.iconst X2.here hx rfl (hb hby at_13) k) ?_
  show Own.Fin p e below (T2.setTop (mkF m 14 #[.val (.int p0), .val (.int p1), .val (.int p2), .val (.int p3), .val (.int p4), .val (.int p5), .val (.ref b1), .unset, .unset, .unset, .unset, .unset, .unset, .unset] [(.int (1 : Int32)), (.ref b1)])) _
  refine Own.go (fun t k => XS.iloadN X2.here hx rfl (hb hby at_14) rfl k) ?_
  show Own.Fin p e below (T2.setTop (mkF m 15 #[.val (.int p0), .val (.int p1), .val (.int p2), .val (.int p3), .val (.int p4), .val (.int p5), .val (.ref b1), .unset, .unset, .unset, .unset, .unset, .unset, .unset] [(.int p0), (.int (1 : Int32)), (.ref b1)])) _
  refine Own.go (fun t k => XS.bipush X2.here hx rfl (hb hby at_15) k) ?_
  show Own.Fin p e below (T2.setTop (mkF m 17 #[.val (.int p0), .val (.int p1), .val (.int p2), .val (.int p3), .val (.int p4), .val (.int p5), .val (.ref b1), .unset, .unset, .unset, .unset, .unset, .unset, .unset] [(.int (16 : Int32)), (.int p0), (.int (1 : Int32)), (.ref b1)])) _
  refine Own.go (fun t k => XS.iushr X2.here hx rfl (hb hby at_17) rfl k) ?_
  show Own.Fin p e below (T2.setTop (mkF m 18 #[.val (.int p0), .val (.int p1), .val (.int p2), .val (.int p3), .val (.int p4), .val (.int p5), .val (.ref b1), .unset, .unset, .unset, .unset, .unset, .unset, .unset] [(.int (((p0).toUInt32 >>> ((16 : Int32) &&& 31).toUInt32).toInt32)), (.int (1 : Int32)), (.ref b1)])) _
  refine Own.go (fun t k => XS.i2c X2.here hx rfl (hb hby at_18) rfl k) ?_
  show Own.Fin p e below (T2.setTop (mkF m 19 #[.val (.int p0), .val (.int p1), .val (.int p2), .val (.int p3), .val (.int p4), .val (.int p5), .val (.ref b1), .unset, .unset, .unset, .unset, .unset, .unset, .unset] [(.int (((((p0).toUInt32 >>> ((16 : Int32) &&& 31).toUInt32).toInt32)).toUInt32.toUInt16.toUInt32.toInt32)), (.int (1 : Int32)), (.ref b1)])) _
  refine Own.stC X2 hx hZ e2 Vq2 (hb hby at_19) ⟨by decide, by decide⟩ 1 rfl (Nat.le_of_ble_eq_true rfl) ?_
  intro T3 h3 X3 e3 W3 V3
  have N3 := Fr.snoc X3 N2 ge1
  have Z3 : n0 ≤ h3.size := by rw [W3.size]; exact Z2
  have O3 := O2.wr W3 ge1
  have Vq3 : Arv Z h3 b1 k1 .char (4 : Int32) [(.int (nar .char ((p0).toUInt32.toUInt16.toUInt32.toInt32))), (.int (nar .char (((((p0).toUInt32 >>> ((16 : Int32) &&& 31).toUInt32).toInt32)).toUInt32.toUInt16.toUInt32.toInt32))), (.int (0 : Int32)), (.int (0 : Int32))] (.int (0 : Int32)) := V3
  show Own.Fin p e below (T3.setTop (mkF m 20 #[.val (.int p0), .val (.int p1), .val (.int p2), .val (.int p3), .val (.int p4), .val (.int p5), .val (.ref b1), .unset, .unset, .unset, .unset, .unset, .unset, .unset] [])) _
  refine Own.go (fun t k => XS.aload X3.here hx rfl (hb hby at_20) rfl rfl k) ?_
  show Own.Fin p e below (T3.setTop (mkF m 22 #[.val (.int p0), .val (.int p1), .val (.int p2), .val (.int p3), .val (.int p4), .val (.int p5), .val (.ref b1), .unset, .unset, .unset, .unset, .unset, .unset, .unset] [(.ref b1)])) _
  refine Own.go (fun t k => XS.iconst X3.here hx rfl (hb hby at_22) k) ?_
  show Own.Fin p e below (T3.setTop (mkF m 23 #[.val (.int p0), .val (.int p1), .val (.int p2), .val (.int p3), .val (.int p4), .val (.int p5), .val (.ref b1), .unset, .unset, .unset, .unset, .unset, .unset, .unset] [(.int (2 : Int32)), (.ref b1)])) _
  refine Own.go (fun t k => XS.iloadN X3.here hx rfl (hb hby at_23) rfl k) ?_
  show Own.Fin p e below (T3.setTop (mkF m 24 #[.val (.int p0), .val (.int p1), .val (.int p2), .val (.int p3), .val (.int p4), .val (.int p5), .val (.ref b1), .unset, .unset, .unset, .unset, .unset, .unset, .unset] [(.int p1), (.int (2 : Int32)), (.ref b1)])) _
  refine Own.go (fun t k => XS.i2c X3.here hx rfl (hb hby at_24) rfl k) ?_
  show Own.Fin p e below (T3.setTop (mkF m 25 #[.val (.int p0), .val (.int p1), .val (.int p2), .val (.int p3), .val (.int p4), .val (.int p5), .val (.ref b1), .unset, .unset, .unset, .unset, .unset, .unset, .unset] [(.int ((p1).toUInt32.toUInt16.toUInt32.toInt32)), (.int (2 : Int32)), (.ref b1)])) _
  refine Own.stC X3 hx hZ e3 Vq3 (hb hby at_25) ⟨by decide, by decide⟩ 2 rfl (Nat.le_of_ble_eq_true rfl) ?_
  intro T4 h4 X4 e4 W4 V4
  have N4 := Fr.snoc X4 N3 ge1
  have Z4 : n0 ≤ h4.size := by rw [W4.size]; exact Z3
  have O4 := O3.wr W4 ge1
  have Vq4 : Arv Z h4 b1 k1 .char (4 : Int32) [(.int (nar .char ((p0).toUInt32.toUInt16.toUInt32.toInt32))), (.int (nar .char (((((p0).toUInt32 >>> ((16 : Int32) &&& 31).toUInt32).toInt32)).toUInt32.toUInt16.toUInt32.toInt32))), (.int (nar .char ((p1).toUInt32.toUInt16.toUInt32.toInt32))), (.int (0 : Int32))] (.int (0 : Int32)) := V4
  show Own.Fin p e below (T4.setTop (mkF m 26 #[.val (.int p0), .val (.int p1), .val (.int p2), .val (.int p3), .val (.int p4), .val (.int p5), .val (.ref b1), .unset, .unset, .unset, .unset, .unset, .unset, .unset] [])) _
  refine Own.go (fun t k => XS.aload X4.here hx rfl (hb hby at_26) rfl rfl k) ?_
  show Own.Fin p e below (T4.setTop (mkF m 28 #[.val (.int p0), .val (.int p1), .val (.int p2), .val (.int p3), .val (.int p4), .val (.int p5), .val (.ref b1), .unset, .unset, .unset, .unset, .unset, .unset, .unset] [(.ref b1)])) _
  refine Own.go (fun t k => XS.iconst X4.here hx rfl (hb hby at_28) k) ?_
  show Own.Fin p e below (T4.setTop (mkF m 29 #[.val (.int p0), .val (.int p1), .val (.int p2), .val (.int p3), .val (.int p4), .val (.int p5), .val (.ref b1), .unset, .unset, .unset, .unset, .unset, .unset, .unset] [(.int (3 : Int32)), (.ref b1)])) _
  refine Own.go (fun t k => XS.iloadN X4.here hx rfl (hb hby at_29) rfl k) ?_
  show Own.Fin p e below (T4.setTop (mkF m 30 #[.val (.int p0), .val (.int p1), .val (.int p2), .val (.int p3), .val (.int p4), .val (.int p5), .val (.ref b1), .unset, .unset, .unset, .unset, .unset, .unset, .unset] [(.int p1), (.int (3 : Int32)), (.ref b1)])) _
  refine Own.go (fun t k => XS.bipush X4.here hx rfl (hb hby at_30) k) ?_
  show Own.Fin p e below (T4.setTop (mkF m 32 #[.val (.int p0), .val (.int p1), .val (.int p2), .val (.int p3), .val (.int p4), .val (.int p5), .val (.ref b1), .unset, .unset, .unset, .unset, .unset, .unset, .unset] [(.int (16 : Int32)), (.int p1), (.int (3 : Int32)), (.ref b1)])) _
  refine Own.go (fun t k => XS.iushr X4.here hx rfl (hb hby at_32) rfl k) ?_
  show Own.Fin p e below (T4.setTop (mkF m 33 #[.val (.int p0), .val (.int p1), .val (.int p2), .val (.int p3), .val (.int p4), .val (.int p5), .val (.ref b1), .unset, .unset, .unset, .unset, .unset, .unset, .unset] [(.int (((p1).toUInt32 >>> ((16 : Int32) &&& 31).toUInt32).toInt32)), (.int (3 : Int32)), (.ref b1)])) _
  refine Own.go (fun t k => XS.i2c X4.here hx rfl (hb hby at_33) rfl k) ?_
  show Own.Fin p e below (T4.setTop (mkF m 34 #[.val (.int p0), .val (.int p1), .val (.int p2), .val (.int p3), .val (.int p4), .val (.int p5), .val (.ref b1), .unset, .unset, .unset, .unset, .unset, .unset, .unset] [(.int (((((p1).toUInt32 >>> ((16 : Int32) &&& 31).toUInt32).toInt32)).toUInt32.toUInt16.toUInt32.toInt32)), (.int (3 : Int32)), (.ref b1)])) _
  refine Own.stC X4 hx hZ e4 Vq4 (hb hby at_34) ⟨by decide, by decide⟩ 3 rfl (Nat.le_of_ble_eq_true rfl) ?_
  intro T5 h5 X5 e5 W5 V5
  have N5 := Fr.snoc X5 N4 ge1
  have Z5 : n0 ≤ h5.size := by rw [W5.size]; exact Z4
  have O5 := O4.wr W5 ge1
  have Vq5 : Arv Z h5 b1 k1 .char (4 : Int32) [(.int (nar .char ((p0).toUInt32.toUInt16.toUInt32.toInt32))), (.int (nar .char (((((p0).toUInt32 >>> ((16 : Int32) &&& 31).toUInt32).toInt32)).toUInt32.toUInt16.toUInt32.toInt32))), (.int (nar .char ((p1).toUInt32.toUInt16.toUInt32.toInt32))), (.int (nar .char (((((p1).toUInt32 >>> ((16 : Int32) &&& 31).toUInt32).toInt32)).toUInt32.toUInt16.toUInt32.toInt32)))] (.int (0 : Int32)) := V5
  show Own.Fin p e below (T5.setTop (mkF m 35 #[.val (.int p0), .val (.int p1), .val (.int p2), .val (.int p3), .val (.int p4), .val (.int p5), .val (.ref b1), .unset, .unset, .unset, .unset, .unset, .unset, .unset] [])) _
  obtain ⟨cc, hcc, VC⟩ := own_cc Vq5
  refine Own.go (fun t k => XS.iconst X5.here hx rfl (hb hby at_35) k) ?_
  show Own.Fin p e below (T5.setTop (mkF m 36 #[.val (.int p0), .val (.int p1), .val (.int p2), .val (.int p3), .val (.int p4), .val (.int p5), .val (.ref b1), .unset, .unset, .unset, .unset, .unset, .unset, .unset] [(.int (4 : Int32))])) _
  refine Own.newA X5 hx hZ (hw _ (List.mem_of_getElem? (i := 0) rfl)) e5 (hb hby at_36) (by decide) 4 (by decide) (by decide) (by decide) (by decide) ?_
  intro T6 h6 b6 k6 X6 e6 E6 gb6 V6
  have ge6 : n0 ≤ b6 := by rw [gb6]; exact Z5
  have ne6_b1 : b1 ≠ b6 := Nat.ne_of_lt (Nat.lt_of_lt_of_le VC.lt (Nat.le_of_eq gb6.symm))
  have Z6 : n0 ≤ h6.size := Nat.le_trans Z5 E6.1
  have f7 := VC.ext E6
  have O6 := O5.ext E6
  have Vp6 : Arv Z h6 b6 k6 .char (4 : Int32) [(.int (0 : Int32)), (.int (0 : Int32)), (.int (0 : Int32)), (.int (0 : Int32))] (.int (0 : Int32)) := Arv.pad V6 (pad_rep [] (.int (0 : Int32)) 4)
  show Own.Fin p e below (T6.setTop (mkF m 38 #[.val (.int p0), .val (.int p1), .val (.int p2), .val (.int p3), .val (.int p4), .val (.int p5), .val (.ref b1), .unset, .unset, .unset, .unset, .unset, .unset, .unset] [(.ref b6)])) _
  refine Own.go (fun t k => XS.astore X6.here hx rfl (hb hby at_38) rfl rfl (l' := #[.val (.int p0), .val (.int p1), .val (.int p2), .val (.int p3), .val (.int p4), .val (.int p5), .val (.ref b1), .val (.ref b6), .unset, .unset, .unset, .unset, .unset, .unset]) rfl k) ?_
  show Own.Fin p e below (T6.setTop (mkF m 40 #[.val (.int p0), .val (.int p1), .val (.int p2), .val (.int p3), .val (.int p4), .val (.int p5), .val (.ref b1), .val (.ref b6), .unset, .unset, .unset, .unset, .unset, .unset] [])) _
  refine Own.go (fun t k => XS.aload X6.here hx rfl (hb hby at_40) rfl rfl k) ?_
  show Own.Fin p e below (T6.setTop (mkF m 42 #[.val (.int p0), .val (.int p1), .val (.int p2), .val (.int p3), .val (.int p4), .val (.int p5), .val (.ref b1), .val (.ref b6), .unset, .unset, .unset, .unset, .unset, .unset] [(.ref b6)])) _
  refine Own.go (fun t k => XS.iconst X6.here hx rfl (hb hby at_42) k) ?_
  show Own.Fin p e below (T6.setTop (mkF m 43 #[.val (.int p0), .val (.int p1), .val (.int p2), .val (.int p3), .val (.int p4), .val (.int p5), .val (.ref b1), .val (.ref b6), .unset, .unset, .unset, .unset, .unset, .unset] [(.int (0 : Int32)), (.ref b6)])) _
  refine Own.go (fun t k => XS.aload X6.here hx rfl (hb hby at_43) rfl rfl k) ?_
  show Own.Fin p e below (T6.setTop (mkF m 45 #[.val (.int p0), .val (.int p1), .val (.int p2), .val (.int p3), .val (.int p4), .val (.int p5), .val (.ref b1), .val (.ref b6), .unset, .unset, .unset, .unset, .unset, .unset] [(.ref b1), (.int (0 : Int32)), (.ref b6)])) _
  refine Own.go (fun t k => XS.iconst X6.here hx rfl (hb hby at_45) k) ?_
  show Own.Fin p e below (T6.setTop (mkF m 46 #[.val (.int p0), .val (.int p1), .val (.int p2), .val (.int p3), .val (.int p4), .val (.int p5), .val (.ref b1), .val (.ref b6), .unset, .unset, .unset, .unset, .unset, .unset] [(.int (0 : Int32)), (.ref b1), (.int (0 : Int32)), (.ref b6)])) _
  refine ldCT (x := (Int32.ofNat (cc 0))) X6 hx hZ e6 f7 (hb hby at_46) rfl (by decide) 0 rfl (by decide) rfl ?_
  show Own.Fin p e below (T6.setTop (mkF m 47 #[.val (.int p0), .val (.int p1), .val (.int p2), .val (.int p3), .val (.int p4), .val (.int p5), .val (.ref b1), .val (.ref b6), .unset, .unset, .unset, .unset, .unset, .unset] [(.int (Int32.ofNat (cc 0))), (.int (0 : Int32)), (.ref b6)])) _
  refine Own.stC X6 hx hZ e6 Vp6 (hb hby at_47) ⟨by decide, by decide⟩ 0 rfl (Nat.le_of_ble_eq_true rfl) ?_
  intro T8 h8 X8 e8 W8 V8
  have N8 := Fr.snoc X8 N5 ge6
  have Z8 : n0 ≤ h8.size := by rw [W8.size]; exact Z6
  have f9 := f7.other W8 ne6_b1
  have O8 := O6.wr W8 ge6
  have Vq8 : Arv Z h8 b6 k6 .char (4 : Int32) [(.int (nar .char (Int32.ofNat (cc 0)))), (.int (0 : Int32)), (.int (0 : Int32)), (.int (0 : Int32))] (.int (0 : Int32)) := V8
  show Own.Fin p e below (T8.setTop (mkF m 48 #[.val (.int p0), .val (.int p1), .val (.int p2), .val (.int p3), .val (.int p4), .val (.int p5), .val (.ref b1), .val (.ref b6), .unset, .unset, .unset, .unset, .unset, .unset] [])) _
  refine Own.go (fun t k => XS.aload X8.here hx rfl (hb hby at_48) rfl rfl k) ?_
  show Own.Fin p e below (T8.setTop (mkF m 50 #[.val (.int p0), .val (.int p1), .val (.int p2), .val (.int p3), .val (.int p4), .val (.int p5), .val (.ref b1), .val (.ref b6), .unset, .unset, .unset, .unset, .unset, .unset] [(.ref b6)])) _
  refine Own.go (fun t k => XS.iconst X8.here hx rfl (hb hby at_50) k) ?_
  show Own.Fin p e below (T8.setTop (mkF m 51 #[.val (.int p0), .val (.int p1), .val (.int p2), .val (.int p3), .val (.int p4), .val (.int p5), .val (.ref b1), .val (.ref b6), .unset, .unset, .unset, .unset, .unset, .unset] [(.int (1 : Int32)), (.ref b6)])) _
  refine Own.go (fun t k => XS.aload X8.here hx rfl (hb hby at_51) rfl rfl k) ?_
  show Own.Fin p e below (T8.setTop (mkF m 53 #[.val (.int p0), .val (.int p1), .val (.int p2), .val (.int p3), .val (.int p4), .val (.int p5), .val (.ref b1), .val (.ref b6), .unset, .unset, .unset, .unset, .unset, .unset] [(.ref b1), (.int (1 : Int32)), (.ref b6)])) _
  refine Own.go (fun t k => XS.iconst X8.here hx rfl (hb hby at_53) k) ?_
  show Own.Fin p e below (T8.setTop (mkF m 54 #[.val (.int p0), .val (.int p1), .val (.int p2), .val (.int p3), .val (.int p4), .val (.int p5), .val (.ref b1), .val (.ref b6), .unset, .unset, .unset, .unset, .unset, .unset] [(.int (1 : Int32)), (.ref b1), (.int (1 : Int32)), (.ref b6)])) _
  refine ldCT (x := (Int32.ofNat (cc 1))) X8 hx hZ e8 f9 (hb hby at_54) rfl (by decide) 1 rfl (by decide) rfl ?_
  show Own.Fin p e below (T8.setTop (mkF m 55 #[.val (.int p0), .val (.int p1), .val (.int p2), .val (.int p3), .val (.int p4), .val (.int p5), .val (.ref b1), .val (.ref b6), .unset, .unset, .unset, .unset, .unset, .unset] [(.int (Int32.ofNat (cc 1))), (.int (1 : Int32)), (.ref b6)])) _
  refine Own.stC X8 hx hZ e8 Vq8 (hb hby at_55) ⟨by decide, by decide⟩ 1 rfl (Nat.le_of_ble_eq_true rfl) ?_
  intro T10 h10 X10 e10 W10 V10
  have N10 := Fr.snoc X10 N8 ge6
  have Z10 : n0 ≤ h10.size := by rw [W10.size]; exact Z8
  have f11 := f9.other W10 ne6_b1
  have O10 := O8.wr W10 ge6
  have Vq10 : Arv Z h10 b6 k6 .char (4 : Int32) [(.int (nar .char (Int32.ofNat (cc 0)))), (.int (nar .char (Int32.ofNat (cc 1)))), (.int (0 : Int32)), (.int (0 : Int32))] (.int (0 : Int32)) := V10
  show Own.Fin p e below (T10.setTop (mkF m 56 #[.val (.int p0), .val (.int p1), .val (.int p2), .val (.int p3), .val (.int p4), .val (.int p5), .val (.ref b1), .val (.ref b6), .unset, .unset, .unset, .unset, .unset, .unset] [])) _
  refine Own.go (fun t k => XS.aload X10.here hx rfl (hb hby at_56) rfl rfl k) ?_
  show Own.Fin p e below (T10.setTop (mkF m 58 #[.val (.int p0), .val (.int p1), .val (.int p2), .val (.int p3), .val (.int p4), .val (.int p5), .val (.ref b1), .val (.ref b6), .unset, .unset, .unset, .unset, .unset, .unset] [(.ref b6)])) _
  refine Own.go (fun t k => XS.iconst X10.here hx rfl (hb hby at_58) k) ?_
  show Own.Fin p e below (T10.setTop (mkF m 59 #[.val (.int p0), .val (.int p1), .val (.int p2), .val (.int p3), .val (.int p4), .val (.int p5), .val (.ref b1), .val (.ref b6), .unset, .unset, .unset, .unset, .unset, .unset] [(.int (2 : Int32)), (.ref b6)])) _
  refine Own.go (fun t k => XS.aload X10.here hx rfl (hb hby at_59) rfl rfl k) ?_
  show Own.Fin p e below (T10.setTop (mkF m 61 #[.val (.int p0), .val (.int p1), .val (.int p2), .val (.int p3), .val (.int p4), .val (.int p5), .val (.ref b1), .val (.ref b6), .unset, .unset, .unset, .unset, .unset, .unset] [(.ref b1), (.int (2 : Int32)), (.ref b6)])) _
  refine Own.go (fun t k => XS.iconst X10.here hx rfl (hb hby at_61) k) ?_
  show Own.Fin p e below (T10.setTop (mkF m 62 #[.val (.int p0), .val (.int p1), .val (.int p2), .val (.int p3), .val (.int p4), .val (.int p5), .val (.ref b1), .val (.ref b6), .unset, .unset, .unset, .unset, .unset, .unset] [(.int (2 : Int32)), (.ref b1), (.int (2 : Int32)), (.ref b6)])) _
  refine ldCT (x := (Int32.ofNat (cc 2))) X10 hx hZ e10 f11 (hb hby at_62) rfl (by decide) 2 rfl (by decide) rfl ?_
  show Own.Fin p e below (T10.setTop (mkF m 63 #[.val (.int p0), .val (.int p1), .val (.int p2), .val (.int p3), .val (.int p4), .val (.int p5), .val (.ref b1), .val (.ref b6), .unset, .unset, .unset, .unset, .unset, .unset] [(.int (Int32.ofNat (cc 2))), (.int (2 : Int32)), (.ref b6)])) _
  refine Own.stC X10 hx hZ e10 Vq10 (hb hby at_63) ⟨by decide, by decide⟩ 2 rfl (Nat.le_of_ble_eq_true rfl) ?_
  intro T12 h12 X12 e12 W12 V12
  have N12 := Fr.snoc X12 N10 ge6
  have Z12 : n0 ≤ h12.size := by rw [W12.size]; exact Z10
  have f13 := f11.other W12 ne6_b1
  have O12 := O10.wr W12 ge6
  have Vq12 : Arv Z h12 b6 k6 .char (4 : Int32) [(.int (nar .char (Int32.ofNat (cc 0)))), (.int (nar .char (Int32.ofNat (cc 1)))), (.int (nar .char (Int32.ofNat (cc 2)))), (.int (0 : Int32))] (.int (0 : Int32)) := V12
  show Own.Fin p e below (T12.setTop (mkF m 64 #[.val (.int p0), .val (.int p1), .val (.int p2), .val (.int p3), .val (.int p4), .val (.int p5), .val (.ref b1), .val (.ref b6), .unset, .unset, .unset, .unset, .unset, .unset] [])) _
  refine Own.go (fun t k => XS.aload X12.here hx rfl (hb hby at_64) rfl rfl k) ?_
  show Own.Fin p e below (T12.setTop (mkF m 66 #[.val (.int p0), .val (.int p1), .val (.int p2), .val (.int p3), .val (.int p4), .val (.int p5), .val (.ref b1), .val (.ref b6), .unset, .unset, .unset, .unset, .unset, .unset] [(.ref b6)])) _
  refine Own.go (fun t k => XS.iconst X12.here hx rfl (hb hby at_66) k) ?_
  show Own.Fin p e below (T12.setTop (mkF m 67 #[.val (.int p0), .val (.int p1), .val (.int p2), .val (.int p3), .val (.int p4), .val (.int p5), .val (.ref b1), .val (.ref b6), .unset, .unset, .unset, .unset, .unset, .unset] [(.int (3 : Int32)), (.ref b6)])) _
  refine Own.go (fun t k => XS.aload X12.here hx rfl (hb hby at_67) rfl rfl k) ?_
  show Own.Fin p e below (T12.setTop (mkF m 69 #[.val (.int p0), .val (.int p1), .val (.int p2), .val (.int p3), .val (.int p4), .val (.int p5), .val (.ref b1), .val (.ref b6), .unset, .unset, .unset, .unset, .unset, .unset] [(.ref b1), (.int (3 : Int32)), (.ref b6)])) _
  refine Own.go (fun t k => XS.iconst X12.here hx rfl (hb hby at_69) k) ?_
  show Own.Fin p e below (T12.setTop (mkF m 70 #[.val (.int p0), .val (.int p1), .val (.int p2), .val (.int p3), .val (.int p4), .val (.int p5), .val (.ref b1), .val (.ref b6), .unset, .unset, .unset, .unset, .unset, .unset] [(.int (3 : Int32)), (.ref b1), (.int (3 : Int32)), (.ref b6)])) _
  refine ldCT (x := (Int32.ofNat (cc 3))) X12 hx hZ e12 f13 (hb hby at_70) rfl (by decide) 3 rfl (by decide) rfl ?_
  show Own.Fin p e below (T12.setTop (mkF m 71 #[.val (.int p0), .val (.int p1), .val (.int p2), .val (.int p3), .val (.int p4), .val (.int p5), .val (.ref b1), .val (.ref b6), .unset, .unset, .unset, .unset, .unset, .unset] [(.int (Int32.ofNat (cc 3))), (.int (3 : Int32)), (.ref b6)])) _
  refine Own.stC X12 hx hZ e12 Vq12 (hb hby at_71) ⟨by decide, by decide⟩ 3 rfl (Nat.le_of_ble_eq_true rfl) ?_
  intro T14 h14 X14 e14 W14 V14
  have N14 := Fr.snoc X14 N12 ge6
  have Z14 : n0 ≤ h14.size := by rw [W14.size]; exact Z12
  have f15 := f13.other W14 ne6_b1
  have O14 := O12.wr W14 ge6
  have Vq14 : Arv Z h14 b6 k6 .char (4 : Int32) [(.int (nar .char (Int32.ofNat (cc 0)))), (.int (nar .char (Int32.ofNat (cc 1)))), (.int (nar .char (Int32.ofNat (cc 2)))), (.int (nar .char (Int32.ofNat (cc 3))))] (.int (0 : Int32)) := V14
  show Own.Fin p e below (T14.setTop (mkF m 72 #[.val (.int p0), .val (.int p1), .val (.int p2), .val (.int p3), .val (.int p4), .val (.int p5), .val (.ref b1), .val (.ref b6), .unset, .unset, .unset, .unset, .unset, .unset] [])) _
  have VO := own_cp hcc Vq14
  refine Own.go (fun t k => XS.iloadN X14.here hx rfl (hb hby at_72) rfl k) ?_
  show Own.Fin p e below (T14.setTop (mkF m 73 #[.val (.int p0), .val (.int p1), .val (.int p2), .val (.int p3), .val (.int p4), .val (.int p5), .val (.ref b1), .val (.ref b6), .unset, .unset, .unset, .unset, .unset, .unset] [(.int p2)])) _
  refine Own.go (fun t k => X14.ldcInt hx hown (mvT hZ (hw _ (List.mem_of_getElem? (i := 1) rfl))) (g := (mkF m 73 #[.val (.int p0), .val (.int p1), .val (.int p2), .val (.int p3), .val (.int p4), .val (.int p5), .val (.ref b1), .val (.ref b6), .unset, .unset, .unset, .unset, .unset, .unset] [(.int p2)])) rfl (hb hby at_73) _ k) ?_
  show Own.Fin p e below (T14.setTop (mkF m 75 #[.val (.int p0), .val (.int p1), .val (.int p2), .val (.int p3), .val (.int p4), .val (.int p5), .val (.ref b1), .val (.ref b6), .unset, .unset, .unset, .unset, .unset, .unset] [(.int (2147483647 : Int32)), (.int p2)])) _
  refine Own.go (fun t k => XS.iand X14.here hx rfl (hb hby at_75) rfl k) ?_
  show Own.Fin p e below (T14.setTop (mkF m 76 #[.val (.int p0), .val (.int p1), .val (.int p2), .val (.int p3), .val (.int p4), .val (.int p5), .val (.ref b1), .val (.ref b6), .unset, .unset, .unset, .unset, .unset, .unset] [(.int (p2 &&& (2147483647 : Int32)))])) _
  refine Own.go (fun t k => XS.iconst X14.here hx rfl (hb hby at_76) k) ?_
  show Own.Fin p e below (T14.setTop (mkF m 77 #[.val (.int p0), .val (.int p1), .val (.int p2), .val (.int p3), .val (.int p4), .val (.int p5), .val (.ref b1), .val (.ref b6), .unset, .unset, .unset, .unset, .unset, .unset] [(.int (5 : Int32)), (.int (p2 &&& (2147483647 : Int32)))])) _
  refine Own.go (fun t k => XS.irem X14.here hx rfl (hb hby at_77) rfl (by decide) k) ?_
  show Own.Fin p e below (T14.setTop (mkF m 78 #[.val (.int p0), .val (.int p1), .val (.int p2), .val (.int p3), .val (.int p4), .val (.int p5), .val (.ref b1), .val (.ref b6), .unset, .unset, .unset, .unset, .unset, .unset] [(.int ((p2 &&& (2147483647 : Int32)) - ((p2 &&& (2147483647 : Int32)) / (5 : Int32)) * (5 : Int32)))])) _
  obtain ⟨s1, hs1, es1⟩ := own_rem p2 5 (by omega) (by omega)
  rw [show ((p2 &&& (2147483647 : Int32)) - ((p2 &&& (2147483647 : Int32)) / (5 : Int32)) * (5 : Int32)) = (Int32.ofNat s1) from es1]
  show Own.Fin p e below (T14.setTop (mkF m 78 #[.val (.int p0), .val (.int p1), .val (.int p2), .val (.int p3), .val (.int p4), .val (.int p5), .val (.ref b1), .val (.ref b6), .unset, .unset, .unset, .unset, .unset, .unset] [(.int (Int32.ofNat s1))])) _
  refine Own.go (fun t k => XS.istore X14.here hx rfl (hb hby at_78) rfl (l' := #[.val (.int p0), .val (.int p1), .val (.int p2), .val (.int p3), .val (.int p4), .val (.int p5), .val (.ref b1), .val (.ref b6), .val (.int (Int32.ofNat s1)), .unset, .unset, .unset, .unset, .unset]) rfl k) ?_
  show Own.Fin p e below (T14.setTop (mkF m 80 #[.val (.int p0), .val (.int p1), .val (.int p2), .val (.int p3), .val (.int p4), .val (.int p5), .val (.ref b1), .val (.ref b6), .val (.int (Int32.ofNat s1)), .unset, .unset, .unset, .unset, .unset] [])) _
  refine Own.go (fun t k => XS.iloadN X14.here hx rfl (hb hby at_80) rfl k) ?_
  show Own.Fin p e below (T14.setTop (mkF m 81 #[.val (.int p0), .val (.int p1), .val (.int p2), .val (.int p3), .val (.int p4), .val (.int p5), .val (.ref b1), .val (.ref b6), .val (.int (Int32.ofNat s1)), .unset, .unset, .unset, .unset, .unset] [(.int p3)])) _
  refine Own.go (fun t k => X14.ldcInt hx hown (mvT hZ (hw _ (List.mem_of_getElem? (i := 1) rfl))) (g := (mkF m 81 #[.val (.int p0), .val (.int p1), .val (.int p2), .val (.int p3), .val (.int p4), .val (.int p5), .val (.ref b1), .val (.ref b6), .val (.int (Int32.ofNat s1)), .unset, .unset, .unset, .unset, .unset] [(.int p3)])) rfl (hb hby at_81) _ k) ?_
  show Own.Fin p e below (T14.setTop (mkF m 83 #[.val (.int p0), .val (.int p1), .val (.int p2), .val (.int p3), .val (.int p4), .val (.int p5), .val (.ref b1), .val (.ref b6), .val (.int (Int32.ofNat s1)), .unset, .unset, .unset, .unset, .unset] [(.int (2147483647 : Int32)), (.int p3)])) _
  refine Own.go (fun t k => XS.iand X14.here hx rfl (hb hby at_83) rfl k) ?_
  show Own.Fin p e below (T14.setTop (mkF m 84 #[.val (.int p0), .val (.int p1), .val (.int p2), .val (.int p3), .val (.int p4), .val (.int p5), .val (.ref b1), .val (.ref b6), .val (.int (Int32.ofNat s1)), .unset, .unset, .unset, .unset, .unset] [(.int (p3 &&& (2147483647 : Int32)))])) _
  refine Own.go (fun t k => XS.iconst X14.here hx rfl (hb hby at_84) k) ?_
  show Own.Fin p e below (T14.setTop (mkF m 85 #[.val (.int p0), .val (.int p1), .val (.int p2), .val (.int p3), .val (.int p4), .val (.int p5), .val (.ref b1), .val (.ref b6), .val (.int (Int32.ofNat s1)), .unset, .unset, .unset, .unset, .unset] [(.int (5 : Int32)), (.int (p3 &&& (2147483647 : Int32)))])) _
  refine Own.go (fun t k => XS.iload X14.here hx rfl (hb hby at_85) rfl k) ?_
  show Own.Fin p e below (T14.setTop (mkF m 87 #[.val (.int p0), .val (.int p1), .val (.int p2), .val (.int p3), .val (.int p4), .val (.int p5), .val (.ref b1), .val (.ref b6), .val (.int (Int32.ofNat s1)), .unset, .unset, .unset, .unset, .unset] [(.int (Int32.ofNat s1)), (.int (5 : Int32)), (.int (p3 &&& (2147483647 : Int32)))])) _
  refine Own.go (fun t k => XS.isub X14.here hx rfl (hb hby at_87) rfl k) ?_
  show Own.Fin p e below (T14.setTop (mkF m 88 #[.val (.int p0), .val (.int p1), .val (.int p2), .val (.int p3), .val (.int p4), .val (.int p5), .val (.ref b1), .val (.ref b6), .val (.int (Int32.ofNat s1)), .unset, .unset, .unset, .unset, .unset] [(.int ((5 : Int32) - (Int32.ofNat s1))), (.int (p3 &&& (2147483647 : Int32)))])) _
  rw [show ((5 : Int32) - (Int32.ofNat s1)) = (Int32.ofNat (5 - s1)) from (Int32.ofNat_sub 5 s1 (by omega)).symm]
  show Own.Fin p e below (T14.setTop (mkF m 88 #[.val (.int p0), .val (.int p1), .val (.int p2), .val (.int p3), .val (.int p4), .val (.int p5), .val (.ref b1), .val (.ref b6), .val (.int (Int32.ofNat s1)), .unset, .unset, .unset, .unset, .unset] [(.int (Int32.ofNat (5 - s1))), (.int (p3 &&& (2147483647 : Int32)))])) _
  refine Own.go (fun t k => XS.irem X14.here hx rfl (hb hby at_88) rfl (own_nz s1 hs1) k) ?_
  show Own.Fin p e below (T14.setTop (mkF m 89 #[.val (.int p0), .val (.int p1), .val (.int p2), .val (.int p3), .val (.int p4), .val (.int p5), .val (.ref b1), .val (.ref b6), .val (.int (Int32.ofNat s1)), .unset, .unset, .unset, .unset, .unset] [(.int ((p3 &&& (2147483647 : Int32)) - ((p3 &&& (2147483647 : Int32)) / (Int32.ofNat (5 - s1))) * (Int32.ofNat (5 - s1))))])) _
  obtain ⟨l1, hl1, el1⟩ := own_rem p3 (5 - s1) (by omega) (by omega)
  rw [show ((p3 &&& (2147483647 : Int32)) - ((p3 &&& (2147483647 : Int32)) / (Int32.ofNat (5 - s1))) * (Int32.ofNat (5 - s1))) = (Int32.ofNat l1) from el1]
  show Own.Fin p e below (T14.setTop (mkF m 89 #[.val (.int p0), .val (.int p1), .val (.int p2), .val (.int p3), .val (.int p4), .val (.int p5), .val (.ref b1), .val (.ref b6), .val (.int (Int32.ofNat s1)), .unset, .unset, .unset, .unset, .unset] [(.int (Int32.ofNat l1))])) _
  refine Own.go (fun t k => XS.istore X14.here hx rfl (hb hby at_89) rfl (l' := #[.val (.int p0), .val (.int p1), .val (.int p2), .val (.int p3), .val (.int p4), .val (.int p5), .val (.ref b1), .val (.ref b6), .val (.int (Int32.ofNat s1)), .val (.int (Int32.ofNat l1)), .unset, .unset, .unset, .unset]) rfl k) ?_
  show Own.Fin p e below (T14.setTop (mkF m 91 #[.val (.int p0), .val (.int p1), .val (.int p2), .val (.int p3), .val (.int p4), .val (.int p5), .val (.ref b1), .val (.ref b6), .val (.int (Int32.ofNat s1)), .val (.int (Int32.ofNat l1)), .unset, .unset, .unset, .unset] [])) _
  refine Own.go (fun t k => XS.iload X14.here hx rfl (hb hby at_91) rfl k) ?_
  show Own.Fin p e below (T14.setTop (mkF m 93 #[.val (.int p0), .val (.int p1), .val (.int p2), .val (.int p3), .val (.int p4), .val (.int p5), .val (.ref b1), .val (.ref b6), .val (.int (Int32.ofNat s1)), .val (.int (Int32.ofNat l1)), .unset, .unset, .unset, .unset] [(.int p4)])) _
  refine Own.go (fun t k => X14.ldcInt hx hown (mvT hZ (hw _ (List.mem_of_getElem? (i := 1) rfl))) (g := (mkF m 93 #[.val (.int p0), .val (.int p1), .val (.int p2), .val (.int p3), .val (.int p4), .val (.int p5), .val (.ref b1), .val (.ref b6), .val (.int (Int32.ofNat s1)), .val (.int (Int32.ofNat l1)), .unset, .unset, .unset, .unset] [(.int p4)])) rfl (hb hby at_93) _ k) ?_
  show Own.Fin p e below (T14.setTop (mkF m 95 #[.val (.int p0), .val (.int p1), .val (.int p2), .val (.int p3), .val (.int p4), .val (.int p5), .val (.ref b1), .val (.ref b6), .val (.int (Int32.ofNat s1)), .val (.int (Int32.ofNat l1)), .unset, .unset, .unset, .unset] [(.int (2147483647 : Int32)), (.int p4)])) _
  refine Own.go (fun t k => XS.iand X14.here hx rfl (hb hby at_95) rfl k) ?_
  show Own.Fin p e below (T14.setTop (mkF m 96 #[.val (.int p0), .val (.int p1), .val (.int p2), .val (.int p3), .val (.int p4), .val (.int p5), .val (.ref b1), .val (.ref b6), .val (.int (Int32.ofNat s1)), .val (.int (Int32.ofNat l1)), .unset, .unset, .unset, .unset] [(.int (p4 &&& (2147483647 : Int32)))])) _
  refine Own.go (fun t k => XS.iconst X14.here hx rfl (hb hby at_96) k) ?_
  show Own.Fin p e below (T14.setTop (mkF m 97 #[.val (.int p0), .val (.int p1), .val (.int p2), .val (.int p3), .val (.int p4), .val (.int p5), .val (.ref b1), .val (.ref b6), .val (.int (Int32.ofNat s1)), .val (.int (Int32.ofNat l1)), .unset, .unset, .unset, .unset] [(.int (5 : Int32)), (.int (p4 &&& (2147483647 : Int32)))])) _
  refine Own.go (fun t k => XS.irem X14.here hx rfl (hb hby at_97) rfl (by decide) k) ?_
  show Own.Fin p e below (T14.setTop (mkF m 98 #[.val (.int p0), .val (.int p1), .val (.int p2), .val (.int p3), .val (.int p4), .val (.int p5), .val (.ref b1), .val (.ref b6), .val (.int (Int32.ofNat s1)), .val (.int (Int32.ofNat l1)), .unset, .unset, .unset, .unset] [(.int ((p4 &&& (2147483647 : Int32)) - ((p4 &&& (2147483647 : Int32)) / (5 : Int32)) * (5 : Int32)))])) _
  obtain ⟨s2, hs2, es2⟩ := own_rem p4 5 (by omega) (by omega)
  rw [show ((p4 &&& (2147483647 : Int32)) - ((p4 &&& (2147483647 : Int32)) / (5 : Int32)) * (5 : Int32)) = (Int32.ofNat s2) from es2]
  show Own.Fin p e below (T14.setTop (mkF m 98 #[.val (.int p0), .val (.int p1), .val (.int p2), .val (.int p3), .val (.int p4), .val (.int p5), .val (.ref b1), .val (.ref b6), .val (.int (Int32.ofNat s1)), .val (.int (Int32.ofNat l1)), .unset, .unset, .unset, .unset] [(.int (Int32.ofNat s2))])) _
  refine Own.go (fun t k => XS.istore X14.here hx rfl (hb hby at_98) rfl (l' := #[.val (.int p0), .val (.int p1), .val (.int p2), .val (.int p3), .val (.int p4), .val (.int p5), .val (.ref b1), .val (.ref b6), .val (.int (Int32.ofNat s1)), .val (.int (Int32.ofNat l1)), .val (.int (Int32.ofNat s2)), .unset, .unset, .unset]) rfl k) ?_
  show Own.Fin p e below (T14.setTop (mkF m 100 #[.val (.int p0), .val (.int p1), .val (.int p2), .val (.int p3), .val (.int p4), .val (.int p5), .val (.ref b1), .val (.ref b6), .val (.int (Int32.ofNat s1)), .val (.int (Int32.ofNat l1)), .val (.int (Int32.ofNat s2)), .unset, .unset, .unset] [])) _
  refine Own.go (fun t k => XS.iload X14.here hx rfl (hb hby at_100) rfl k) ?_
  show Own.Fin p e below (T14.setTop (mkF m 102 #[.val (.int p0), .val (.int p1), .val (.int p2), .val (.int p3), .val (.int p4), .val (.int p5), .val (.ref b1), .val (.ref b6), .val (.int (Int32.ofNat s1)), .val (.int (Int32.ofNat l1)), .val (.int (Int32.ofNat s2)), .unset, .unset, .unset] [(.int p5)])) _
  refine Own.go (fun t k => X14.ldcInt hx hown (mvT hZ (hw _ (List.mem_of_getElem? (i := 1) rfl))) (g := (mkF m 102 #[.val (.int p0), .val (.int p1), .val (.int p2), .val (.int p3), .val (.int p4), .val (.int p5), .val (.ref b1), .val (.ref b6), .val (.int (Int32.ofNat s1)), .val (.int (Int32.ofNat l1)), .val (.int (Int32.ofNat s2)), .unset, .unset, .unset] [(.int p5)])) rfl (hb hby at_102) _ k) ?_
  show Own.Fin p e below (T14.setTop (mkF m 104 #[.val (.int p0), .val (.int p1), .val (.int p2), .val (.int p3), .val (.int p4), .val (.int p5), .val (.ref b1), .val (.ref b6), .val (.int (Int32.ofNat s1)), .val (.int (Int32.ofNat l1)), .val (.int (Int32.ofNat s2)), .unset, .unset, .unset] [(.int (2147483647 : Int32)), (.int p5)])) _
  refine Own.go (fun t k => XS.iand X14.here hx rfl (hb hby at_104) rfl k) ?_
  show Own.Fin p e below (T14.setTop (mkF m 105 #[.val (.int p0), .val (.int p1), .val (.int p2), .val (.int p3), .val (.int p4), .val (.int p5), .val (.ref b1), .val (.ref b6), .val (.int (Int32.ofNat s1)), .val (.int (Int32.ofNat l1)), .val (.int (Int32.ofNat s2)), .unset, .unset, .unset] [(.int (p5 &&& (2147483647 : Int32)))])) _
  refine Own.go (fun t k => XS.iconst X14.here hx rfl (hb hby at_105) k) ?_
  show Own.Fin p e below (T14.setTop (mkF m 106 #[.val (.int p0), .val (.int p1), .val (.int p2), .val (.int p3), .val (.int p4), .val (.int p5), .val (.ref b1), .val (.ref b6), .val (.int (Int32.ofNat s1)), .val (.int (Int32.ofNat l1)), .val (.int (Int32.ofNat s2)), .unset, .unset, .unset] [(.int (5 : Int32)), (.int (p5 &&& (2147483647 : Int32)))])) _
  refine Own.go (fun t k => XS.iload X14.here hx rfl (hb hby at_106) rfl k) ?_
  show Own.Fin p e below (T14.setTop (mkF m 108 #[.val (.int p0), .val (.int p1), .val (.int p2), .val (.int p3), .val (.int p4), .val (.int p5), .val (.ref b1), .val (.ref b6), .val (.int (Int32.ofNat s1)), .val (.int (Int32.ofNat l1)), .val (.int (Int32.ofNat s2)), .unset, .unset, .unset] [(.int (Int32.ofNat s2)), (.int (5 : Int32)), (.int (p5 &&& (2147483647 : Int32)))])) _
  refine Own.go (fun t k => XS.isub X14.here hx rfl (hb hby at_108) rfl k) ?_
  show Own.Fin p e below (T14.setTop (mkF m 109 #[.val (.int p0), .val (.int p1), .val (.int p2), .val (.int p3), .val (.int p4), .val (.int p5), .val (.ref b1), .val (.ref b6), .val (.int (Int32.ofNat s1)), .val (.int (Int32.ofNat l1)), .val (.int (Int32.ofNat s2)), .unset, .unset, .unset] [(.int ((5 : Int32) - (Int32.ofNat s2))), (.int (p5 &&& (2147483647 : Int32)))])) _
  rw [show ((5 : Int32) - (Int32.ofNat s2)) = (Int32.ofNat (5 - s2)) from (Int32.ofNat_sub 5 s2 (by omega)).symm]
  show Own.Fin p e below (T14.setTop (mkF m 109 #[.val (.int p0), .val (.int p1), .val (.int p2), .val (.int p3), .val (.int p4), .val (.int p5), .val (.ref b1), .val (.ref b6), .val (.int (Int32.ofNat s1)), .val (.int (Int32.ofNat l1)), .val (.int (Int32.ofNat s2)), .unset, .unset, .unset] [(.int (Int32.ofNat (5 - s2))), (.int (p5 &&& (2147483647 : Int32)))])) _
  refine Own.go (fun t k => XS.irem X14.here hx rfl (hb hby at_109) rfl (own_nz s2 hs2) k) ?_
  show Own.Fin p e below (T14.setTop (mkF m 110 #[.val (.int p0), .val (.int p1), .val (.int p2), .val (.int p3), .val (.int p4), .val (.int p5), .val (.ref b1), .val (.ref b6), .val (.int (Int32.ofNat s1)), .val (.int (Int32.ofNat l1)), .val (.int (Int32.ofNat s2)), .unset, .unset, .unset] [(.int ((p5 &&& (2147483647 : Int32)) - ((p5 &&& (2147483647 : Int32)) / (Int32.ofNat (5 - s2))) * (Int32.ofNat (5 - s2))))])) _
  obtain ⟨l2, hl2, el2⟩ := own_rem p5 (5 - s2) (by omega) (by omega)
  rw [show ((p5 &&& (2147483647 : Int32)) - ((p5 &&& (2147483647 : Int32)) / (Int32.ofNat (5 - s2))) * (Int32.ofNat (5 - s2))) = (Int32.ofNat l2) from el2]
  show Own.Fin p e below (T14.setTop (mkF m 110 #[.val (.int p0), .val (.int p1), .val (.int p2), .val (.int p3), .val (.int p4), .val (.int p5), .val (.ref b1), .val (.ref b6), .val (.int (Int32.ofNat s1)), .val (.int (Int32.ofNat l1)), .val (.int (Int32.ofNat s2)), .unset, .unset, .unset] [(.int (Int32.ofNat l2))])) _
  refine Own.go (fun t k => XS.istore X14.here hx rfl (hb hby at_110) rfl (l' := #[.val (.int p0), .val (.int p1), .val (.int p2), .val (.int p3), .val (.int p4), .val (.int p5), .val (.ref b1), .val (.ref b6), .val (.int (Int32.ofNat s1)), .val (.int (Int32.ofNat l1)), .val (.int (Int32.ofNat s2)), .val (.int (Int32.ofNat l2)), .unset, .unset]) rfl k) ?_
  show Own.Fin p e below (T14.setTop (mkF m 112 #[.val (.int p0), .val (.int p1), .val (.int p2), .val (.int p3), .val (.int p4), .val (.int p5), .val (.ref b1), .val (.ref b6), .val (.int (Int32.ofNat s1)), .val (.int (Int32.ofNat l1)), .val (.int (Int32.ofNat s2)), .val (.int (Int32.ofNat l2)), .unset, .unset] [])) _
  have hb1 := own_b1 hs1 hl1
  have hb2 := own_b1 hs2 hl2
  have hb3 : l1 + l2 ≤ 8 := own_b2 hb1 hb2
  have hb4 : s2 + (l1 + l2 - l1) ≤ 4 := own_b3 (s := s1) hb2
  obtain ⟨T16, h16, X16, e16, E16, A16, D16, -, st16⟩ := newO X14 hx hZ hown (hw _ (List.mem_of_getElem? (i := 2) rfl)) (hw _ (List.mem_of_getElem? (i := 3) rfl)) (hw _ (List.mem_of_getElem? (i := 4) rfl)) e14 (g := (mkF m 112 #[.val (.int p0), .val (.int p1), .val (.int p2), .val (.int p3), .val (.int p4), .val (.int p5), .val (.ref b1), .val (.ref b6), .val (.int (Int32.ofNat s1)), .val (.int (Int32.ofNat l1)), .val (.int (Int32.ofNat s2)), .val (.int (Int32.ofNat l2)), .unset, .unset] [])) rfl (hb hby at_112) (by decide) (by decide)
  obtain ⟨b16, gb16⟩ : ∃ z, z = h14.size := ⟨_, rfl⟩
  rw [← gb16] at A16 D16 st16
  refine Own.go st16 ?_
  have ge16 : n0 ≤ b16 := by rw [gb16]; exact Z14
  have ne16_b1 : b1 ≠ b16 := Nat.ne_of_lt (Nat.lt_of_lt_of_le f15.lt (Nat.le_of_eq gb16.symm))
  have ne16_b6 : b6 ≠ b16 := Nat.ne_of_lt (Nat.lt_of_lt_of_le VO.lt (Nat.le_of_eq gb16.symm))
  have Z16 : n0 ≤ h16.size := Nat.le_trans Z14 E16.1
  have f17 := f15.ext E16
  have f18 := VO.ext E16
  have O16 := O14.ext E16
  have fl19 : Fld Z h16 b16 "com/example/loomwright/loomwright/rule/XmlElement" "children" "Ljava/util/List;" .null := D16 (Or.inr (hw _ (List.mem_of_getElem? (i := 61) rfl))) (ty := (.object "java/util/List")) (by decide)
  have fl20 : Fld Z h16 b16 "com/example/loomwright/loomwright/rule/XmlElement" "text" "Ljava/lang/StringBuilder;" .null := D16 (Or.inr (hw _ (List.mem_of_getElem? (i := 81) rfl))) (ty := (.object "java/lang/StringBuilder")) (by decide)
  have fl21 : Fld Z h16 b16 "com/example/loomwright/loomwright/rule/XmlElement" "location" "Lcom/example/loomwright/loomwright/config/Location;" .null := D16 (Or.inr (hw _ (List.mem_of_getElem? (i := 83) rfl))) (ty := (.object "com/example/loomwright/loomwright/config/Location")) (by decide)
  have fl22 : Fld Z h16 b16 "com/example/loomwright/loomwright/rule/XmlElement" "name" "Ljava/lang/String;" .null := D16 (Or.inr (hw _ (List.mem_of_getElem? (i := 85) rfl))) (ty := (.object "java/lang/String")) (by decide)
  have fl23 : Fld Z h16 b16 "com/example/loomwright/loomwright/rule/XmlElement" "attributes" "Ljava/util/Map;" .null := D16 (Or.inr (hw _ (List.mem_of_getElem? (i := 87) rfl))) (ty := (.object "java/util/Map")) (by decide)
  show Own.Fin p e below (T16.setTop (mkF m 115 #[.val (.int p0), .val (.int p1), .val (.int p2), .val (.int p3), .val (.int p4), .val (.int p5), .val (.ref b1), .val (.ref b6), .val (.int (Int32.ofNat s1)), .val (.int (Int32.ofNat l1)), .val (.int (Int32.ofNat s2)), .val (.int (Int32.ofNat l2)), .unset, .unset] [(.ref b16)])) _
  refine Own.go (fun t k => XS.dup X16.here hx rfl (hb hby at_115) rfl rfl k) ?_
  show Own.Fin p e below (T16.setTop (mkF m 116 #[.val (.int p0), .val (.int p1), .val (.int p2), .val (.int p3), .val (.int p4), .val (.int p5), .val (.ref b1), .val (.ref b6), .val (.int (Int32.ofNat s1)), .val (.int (Int32.ofNat l1)), .val (.int (Int32.ofNat s2)), .val (.int (Int32.ofNat l2)), .unset, .unset] [(.ref b16), (.ref b16)])) _
  obtain ⟨T24, h24, X24, e24, E24, A24, D24, -, st24⟩ := newO X16 hx hZ hown (hw _ (List.mem_of_getElem? (i := 5) rfl)) (hw _ (List.mem_of_getElem? (i := 6) rfl)) (hw _ (List.mem_of_getElem? (i := 7) rfl)) e16 (g := (mkF m 116 #[.val (.int p0), .val (.int p1), .val (.int p2), .val (.int p3), .val (.int p4), .val (.int p5), .val (.ref b1), .val (.ref b6), .val (.int (Int32.ofNat s1)), .val (.int (Int32.ofNat l1)), .val (.int (Int32.ofNat s2)), .val (.int (Int32.ofNat l2)), .unset, .unset] [(.ref b16), (.ref b16)])) rfl (hb hby at_116) (by decide) (by decide)
  obtain ⟨b24, gb24⟩ : ∃ z, z = h16.size := ⟨_, rfl⟩
  rw [← gb24] at A24 D24 st24
  refine Own.go st24 ?_
  have ge24 : n0 ≤ b24 := by rw [gb24]; exact Z16
  have ne24_b1 : b1 ≠ b24 := Nat.ne_of_lt (Nat.lt_of_lt_of_le f17.lt (Nat.le_of_eq gb24.symm))
  have ne24_b16 : b16 ≠ b24 := Nat.ne_of_lt (Nat.lt_of_lt_of_le A16.lt (Nat.le_of_eq gb24.symm))
  have ne24_b6 : b6 ≠ b24 := Nat.ne_of_lt (Nat.lt_of_lt_of_le f18.lt (Nat.le_of_eq gb24.symm))
  have Z24 : n0 ≤ h24.size := Nat.le_trans Z16 E24.1
  have f25 := f17.ext E24
  have f26 := f18.ext E24
  have f27 := A16.ext E24
  have f28 := fl19.ext E24
  have f29 := fl20.ext E24
  have f30 := fl21.ext E24
  have f31 := fl22.ext E24
  have f32 := fl23.ext E24
  have O24 := O16.ext E24
  have fl33 : Fld Z h24 b24 "com/example/loomwright/loomwright/config/Location" "file" "Ljava/lang/String;" .null := D24 (Or.inr (hw _ (List.mem_of_getElem? (i := 28) rfl))) (ty := (.object "java/lang/String")) (by decide)
  have fl34 : Fld Z h24 b24 "com/example/loomwright/loomwright/config/Location" "line" "I" (.int (0 : Int32)) := D24 (Or.inr (hw _ (List.mem_of_getElem? (i := 30) rfl))) (ty := .int) (by decide)
  show Own.Fin p e below (T24.setTop (mkF m 119 #[.val (.int p0), .val (.int p1), .val (.int p2), .val (.int p3), .val (.int p4), .val (.int p5), .val (.ref b1), .val (.ref b6), .val (.int (Int32.ofNat s1)), .val (.int (Int32.ofNat l1)), .val (.int (Int32.ofNat s2)), .val (.int (Int32.ofNat l2)), .unset, .unset] [(.ref b24), (.ref b16), (.ref b16)])) _
  refine Own.go (fun t k => XS.dup X24.here hx rfl (hb hby at_119) rfl rfl k) ?_
  show Own.Fin p e below (T24.setTop (mkF m 120 #[.val (.int p0), .val (.int p1), .val (.int p2), .val (.int p3), .val (.int p4), .val (.int p5), .val (.ref b1), .val (.ref b6), .val (.int (Int32.ofNat s1)), .val (.int (Int32.ofNat l1)), .val (.int (Int32.ofNat s2)), .val (.int (Int32.ofNat l2)), .unset, .unset] [(.ref b24), (.ref b24), (.ref b16), (.ref b16)])) _
  obtain ⟨a35, T35, h35, k35, X35, e35, E35, hS35, hk35, hZ, hown, st35⟩ := ldcS X24 hx hZ hown (hw _ (List.mem_of_getElem? (i := 8) rfl)) wS e24 hS0 (Nat.zero_le _) (g := (mkF m 120 #[.val (.int p0), .val (.int p1), .val (.int p2), .val (.int p3), .val (.int p4), .val (.int p5), .val (.ref b1), .val (.ref b6), .val (.int (Int32.ofNat s1)), .val (.int (Int32.ofNat l1)), .val (.int (Int32.ofNat s2)), .val (.int (Int32.ofNat l2)), .unset, .unset] [(.ref b24), (.ref b24), (.ref b16), (.ref b16)])) rfl (hb hby at_120) (n := 4) (by decide +kernel) (by decide) (by decide) (by decide)
  refine Own.go st35 ?_
  have Z35 : n0 ≤ h35.size := Nat.le_trans Z24 E35.1
  have f36 := f25.ext E35
  have f37 := f26.ext E35
  have f38 := f27.ext E35
  have f39 := f28.ext E35
  have f40 := f29.ext E35
  have f41 := f30.ext E35
  have f42 := f31.ext E35
  have f43 := f32.ext E35
  have f44 := A24.ext E35
  have f45 := fl33.ext E35
  have f46 := fl34.ext E35
  have O35 := O24.ext E35
  show Own.Fin p e below (T35.setTop (mkF m 122 #[.val (.int p0), .val (.int p1), .val (.int p2), .val (.int p3), .val (.int p4), .val (.int p5), .val (.ref b1), .val (.ref b6), .val (.int (Int32.ofNat s1)), .val (.int (Int32.ofNat l1)), .val (.int (Int32.ofNat s2)), .val (.int (Int32.ofNat l2)), .unset, .unset] [(.ref a35), (.ref b24), (.ref b24), (.ref b16), (.ref b16)])) _
  refine Own.go (fun t k => XS.iconst X35.here hx rfl (hb hby at_122) k) ?_
  show Own.Fin p e below (T35.setTop (mkF m 123 #[.val (.int p0), .val (.int p1), .val (.int p2), .val (.int p3), .val (.int p4), .val (.int p5), .val (.ref b1), .val (.ref b6), .val (.int (Int32.ofNat s1)), .val (.int (Int32.ofNat l1)), .val (.int (Int32.ofNat s2)), .val (.int (Int32.ofNat l2)), .unset, .unset] [(.int (1 : Int32)), (.ref a35), (.ref b24), (.ref b24), (.ref b16), (.ref b16)])) _
  refine Own.cI X35 hx hZ rfl hown (hw _ (List.mem_of_getElem? (i := 16) rfl)) (hw _ (List.mem_of_getElem? (i := 17) rfl)) (hw _ (List.mem_of_getElem? (i := 7) rfl)) (hw _ (List.mem_of_getElem? (i := 18) rfl)) (by decide) (rm1 l Z a0 hw [] b24 a35 (1 : Int32) h35 n0 Z35 f44 f45 f46 ge24) (by decide) (W := 3) (by decide) (argsL := [(.ref a35), (.int (1 : Int32))]) (rest := [(.ref b24), (.ref b16), (.ref b16)]) (by rw [hml]; rfl) (lenOf pd_30 rfl) rfl (Nat.le_of_eq rfl) (hb hby at_123) e35 (by decide) (by decide) ?_
  intro T47 L47 v47 X47 hQ47
  obtain ⟨rfl, N47q, K47q⟩ := hQ47
  have N47 := Fr.app N14 N47q
  have f48 := f36.keep K47q (ninS ne24_b1 nin0)
  have f49 := f37.keep K47q (ninS ne24_b6 nin0)
  have f50 := f38.keep K47q
  have f51 := f39.keep K47q (ninS ne24_b16 nin0)
  have f52 := f40.keep K47q (ninS ne24_b16 nin0)
  have f53 := f41.keep K47q (ninS ne24_b16 nin0)
  have f54 := f42.keep K47q (ninS ne24_b16 nin0)
  have f55 := f43.keep K47q (ninS ne24_b16 nin0)
  have f56 := f44.keep K47q
  have Z47 : n0 ≤ T47.heap.size := Nat.le_trans Z35 K47q.1
  have O47 := O35.keep K47q (allS ge24 all0)
  have S47 : k35 ≤ T47.heap.size := Nat.le_trans hk35 K47q.1
  show Own.Fin p e below (T47.setTop (mkF m 126 #[.val (.int p0), .val (.int p1), .val (.int p2), .val (.int p3), .val (.int p4), .val (.int p5), .val (.ref b1), .val (.ref b6), .val (.int (Int32.ofNat s1)), .val (.int (Int32.ofNat l1)), .val (.int (Int32.ofNat s2)), .val (.int (Int32.ofNat l2)), .unset, .unset] [(.ref b24), (.ref b16), (.ref b16)])) _
  obtain ⟨a57, T57, h57, k57, X57, e57, E57, hS57, hk57, hZ, hown, st57⟩ := ldcS X47 hx hZ hown (hw _ (List.mem_of_getElem? (i := 31) rfl)) wS rfl hS35 S47 (g := (mkF m 126 #[.val (.int p0), .val (.int p1), .val (.int p2), .val (.int p3), .val (.int p4), .val (.int p5), .val (.ref b1), .val (.ref b6), .val (.int (Int32.ofNat s1)), .val (.int (Int32.ofNat l1)), .val (.int (Int32.ofNat s2)), .val (.int (Int32.ofNat l2)), .unset, .unset] [(.ref b24), (.ref b16), (.ref b16)])) rfl (hb hby at_126) (n := 4) (by decide +kernel) (by decide) (by decide) (by decide)
  refine Own.go st57 ?_
  have Z57 : n0 ≤ h57.size := Nat.le_trans Z47 E57.1
  have f58 := f48.ext E57
  have f59 := f49.ext E57
  have f60 := f50.ext E57
  have f61 := f51.ext E57
  have f62 := f52.ext E57
  have f63 := f53.ext E57
  have f64 := f54.ext E57
  have f65 := f55.ext E57
  have f66 := f56.ext E57
  have O57 := O47.ext E57
  show Own.Fin p e below (T57.setTop (mkF m 128 #[.val (.int p0), .val (.int p1), .val (.int p2), .val (.int p3), .val (.int p4), .val (.int p5), .val (.ref b1), .val (.ref b6), .val (.int (Int32.ofNat s1)), .val (.int (Int32.ofNat l1)), .val (.int (Int32.ofNat s2)), .val (.int (Int32.ofNat l2)), .unset, .unset] [(.ref a57), (.ref b24), (.ref b16), (.ref b16)])) _
  refine Own.go (fun t k => XS.aconstNull X57.here hx rfl (hb hby at_128) k) ?_
  show Own.Fin p e below (T57.setTop (mkF m 129 #[.val (.int p0), .val (.int p1), .val (.int p2), .val (.int p3), .val (.int p4), .val (.int p5), .val (.ref b1), .val (.ref b6), .val (.int (Int32.ofNat s1)), .val (.int (Int32.ofNat l1)), .val (.int (Int32.ofNat s2)), .val (.int (Int32.ofNat l2)), .unset, .unset] [.null, (.ref a57), (.ref b24), (.ref b16), (.ref b16)])) _
  refine Own.cI X57 hx hZ rfl hown (hw _ (List.mem_of_getElem? (i := 32) rfl)) (hw _ (List.mem_of_getElem? (i := 33) rfl)) (hw _ (List.mem_of_getElem? (i := 4) rfl)) (hw _ (List.mem_of_getElem? (i := 34) rfl)) (by decide) (rm4 l Z a0 hw [] b16 b24 a57 cs fe_ h57 n0 Z57 O57 SC SE hcs f60 f61 f62 f63 f64 f65 ge16) (by decide) (W := 1) (by decide) (argsL := [(.ref b24), (.ref a57), .null]) (rest := [(.ref b16)]) (by rw [hml]; rfl) (lenOf pd_31 rfl) rfl (Nat.le_of_eq rfl) (hb hby at_129) e57 (by decide) (by decide) ?_
  intro T67 L67 v67 X67 hQ67
  obtain ⟨oa, va, rfl, N67q, K67q, goa, gva, szo, szv, hov, FX, hR⟩ := hQ67
  have N67 := Fr.app N47 N67q
  have ne_b1_oa : b1 ≠ oa := Nat.ne_of_lt (Nat.lt_of_lt_of_le f58.lt szo)
  have ne_b1_va : b1 ≠ va := Nat.ne_of_lt (Nat.lt_of_lt_of_le f58.lt szv)
  have ne_b6_oa : b6 ≠ oa := Nat.ne_of_lt (Nat.lt_of_lt_of_le f59.lt szo)
  have ne_b6_va : b6 ≠ va := Nat.ne_of_lt (Nat.lt_of_lt_of_le f59.lt szv)
  have ne_b16_oa : b16 ≠ oa := Nat.ne_of_lt (Nat.lt_of_lt_of_le f60.lt szo)
  have ne_b16_va : b16 ≠ va := Nat.ne_of_lt (Nat.lt_of_lt_of_le f60.lt szv)
  have f68 := f58.keep K67q (ninS ne16_b1 nin0)
  have f69 := f59.keep K67q (ninS ne16_b6 nin0)
  have f70 := f60.keep K67q
  have f71 := f66.keep K67q
  have Z67 : n0 ≤ T67.heap.size := Nat.le_trans Z57 K67q.1
  have O67 := O57.keep K67q (allS ge16 all0)
  have S67 : k57 ≤ T67.heap.size := Nat.le_trans hk57 K67q.1
  show Own.Fin p e below (T67.setTop (mkF m 132 #[.val (.int p0), .val (.int p1), .val (.int p2), .val (.int p3), .val (.int p4), .val (.int p5), .val (.ref b1), .val (.ref b6), .val (.int (Int32.ofNat s1)), .val (.int (Int32.ofNat l1)), .val (.int (Int32.ofNat s2)), .val (.int (Int32.ofNat l2)), .unset, .unset] [(.ref b16)])) _
  refine Own.go (fun t k => XS.astore X67.here hx rfl (hb hby at_132) rfl rfl (l' := #[.val (.int p0), .val (.int p1), .val (.int p2), .val (.int p3), .val (.int p4), .val (.int p5), .val (.ref b1), .val (.ref b6), .val (.int (Int32.ofNat s1)), .val (.int (Int32.ofNat l1)), .val (.int (Int32.ofNat s2)), .val (.int (Int32.ofNat l2)), .val (.ref b16), .unset]) rfl k) ?_
  show Own.Fin p e below (T67.setTop (mkF m 134 #[.val (.int p0), .val (.int p1), .val (.int p2), .val (.int p3), .val (.int p4), .val (.int p5), .val (.ref b1), .val (.ref b6), .val (.int (Int32.ofNat s1)), .val (.int (Int32.ofNat l1)), .val (.int (Int32.ofNat s2)), .val (.int (Int32.ofNat l2)), .val (.ref b16), .unset] [])) _
  refine Own.go (fun t k => XS.aload X67.here hx rfl (hb hby at_134) rfl rfl k) ?_
  show Own.Fin p e below (T67.setTop (mkF m 136 #[.val (.int p0), .val (.int p1), .val (.int p2), .val (.int p3), .val (.int p4), .val (.int p5), .val (.ref b1), .val (.ref b6), .val (.int (Int32.ofNat s1)), .val (.int (Int32.ofNat l1)), .val (.int (Int32.ofNat s2)), .val (.int (Int32.ofNat l2)), .val (.ref b16), .unset] [(.ref b16)])) _
  refine Own.go (fun t k => XS.aload X67.here hx rfl (hb hby at_136) rfl rfl k) ?_
  show Own.Fin p e below (T67.setTop (mkF m 138 #[.val (.int p0), .val (.int p1), .val (.int p2), .val (.int p3), .val (.int p4), .val (.int p5), .val (.ref b1), .val (.ref b6), .val (.int (Int32.ofNat s1)), .val (.int (Int32.ofNat l1)), .val (.int (Int32.ofNat s2)), .val (.int (Int32.ofNat l2)), .val (.ref b16), .unset] [(.ref b1), (.ref b16)])) _
  refine Own.go (fun t k => XS.iload X67.here hx rfl (hb hby at_138) rfl k) ?_
  show Own.Fin p e below (T67.setTop (mkF m 140 #[.val (.int p0), .val (.int p1), .val (.int p2), .val (.int p3), .val (.int p4), .val (.int p5), .val (.ref b1), .val (.ref b6), .val (.int (Int32.ofNat s1)), .val (.int (Int32.ofNat l1)), .val (.int (Int32.ofNat s2)), .val (.int (Int32.ofNat l2)), .val (.ref b16), .unset] [(.int (Int32.ofNat s1)), (.ref b1), (.ref b16)])) _
  refine Own.go (fun t k => XS.iload X67.here hx rfl (hb hby at_140) rfl k) ?_
  show Own.Fin p e below (T67.setTop (mkF m 142 #[.val (.int p0), .val (.int p1), .val (.int p2), .val (.int p3), .val (.int p4), .val (.int p5), .val (.ref b1), .val (.ref b6), .val (.int (Int32.ofNat s1)), .val (.int (Int32.ofNat l1)), .val (.int (Int32.ofNat s2)), .val (.int (Int32.ofNat l2)), .val (.ref b16), .unset] [(.int (Int32.ofNat l1)), (.int (Int32.ofNat s1)), (.ref b1), (.ref b16)])) _
  refine Own.cV X67 hx hZ hown (hw _ (List.mem_of_getElem? (i := 88) rfl)) (hw _ (List.mem_of_getElem? (i := 89) rfl)) (notFace_of_selects (args := #[]) (mvT hZ (hw _ (List.mem_of_getElem? (i := 91) rfl)))) (hw _ (List.mem_of_getElem? (i := 91) rfl)) (hw _ (List.mem_of_getElem? (i := 90) rfl)) (hw _ (List.mem_of_getElem? (i := 4) rfl)) (hw _ (List.mem_of_getElem? (i := 92) rfl)) (by decide) (rm10 l Z a0 hw [] b16 b1 (Int32.ofNat s1) (Int32.ofNat l1) oa cs fs_ fi_ va k1 0 s1 (s1 + l1) (fun _ => 0) cc T67.heap n0 Z67 O67 SC SD SH SL SF SI hcs hc_s hc_i FX hR gva f68 goa hov ne_b1_oa ne_b1_va (Nat.le_add_right _ _) hb1 (own_b4 hb1) hcc rfl (by rw [Nat.add_sub_cancel_left])) (by decide) (W := 0) (by decide) (argsL := [(.ref b1), (.int (Int32.ofNat s1)), (.int (Int32.ofNat l1))]) (rest := []) f70 (by rw [hml]; rfl) (lenOf pd_17 rfl) rfl (Nat.le_of_eq rfl) (hb hby at_142) rfl (by decide) (by decide) ?_
  intro T72 L72 v72 X72 hQ72
  obtain ⟨va72, rfl, N72q, K72q, gv72, ho72, hf72, hR72⟩ := hQ72
  have N72 := Fr.app N67 N72q
  have ne72_b1 : b1 ≠ va72 := own_ne hf72 ne_b1_va f68.lt
  have ne72_b6 : b6 ≠ va72 := own_ne hf72 ne_b6_va f69.lt
  have ne72_b16 : b16 ≠ va72 := own_ne hf72 ne_b16_va f70.lt
  have f73 := f68.keep K72q (ninS ne_b1_oa (ninS ne_b1_va nin0))
  have f74 := f69.keep K72q (ninS ne_b6_oa (ninS ne_b6_va nin0))
  have f75 := f70.keep K72q
  have f76 := f71.keep K72q
  have f77 := FX.keep K72q (ninS ne_b16_oa (ninS ne_b16_va nin0))
  have Z72 : n0 ≤ T72.heap.size := Nat.le_trans Z67 K72q.1
  have O72 := O67.keep K72q (allS goa (allS gva all0))
  have S72 : k57 ≤ T72.heap.size := Nat.le_trans S67 K72q.1
  rw [own_b6 s1 l1] at hR72
  show Own.Fin p e below (T72.setTop (mkF m 145 #[.val (.int p0), .val (.int p1), .val (.int p2), .val (.int p3), .val (.int p4), .val (.int p5), .val (.ref b1), .val (.ref b6), .val (.int (Int32.ofNat s1)), .val (.int (Int32.ofNat l1)), .val (.int (Int32.ofNat s2)), .val (.int (Int32.ofNat l2)), .val (.ref b16), .unset] [])) _
  refine Own.go (fun t k => XS.aload X72.here hx rfl (hb hby at_145) rfl rfl k) ?_
  show Own.Fin p e below (T72.setTop (mkF m 147 #[.val (.int p0), .val (.int p1), .val (.int p2), .val (.int p3), .val (.int p4), .val (.int p5), .val (.ref b1), .val (.ref b6), .val (.int (Int32.ofNat s1)), .val (.int (Int32.ofNat l1)), .val (.int (Int32.ofNat s2)), .val (.int (Int32.ofNat l2)), .val (.ref b16), .unset] [(.ref b16)])) _
  refine Own.go (fun t k => XS.aload X72.here hx rfl (hb hby at_147) rfl rfl k) ?_
  show Own.Fin p e below (T72.setTop (mkF m 149 #[.val (.int p0), .val (.int p1), .val (.int p2), .val (.int p3), .val (.int p4), .val (.int p5), .val (.ref b1), .val (.ref b6), .val (.int (Int32.ofNat s1)), .val (.int (Int32.ofNat l1)), .val (.int (Int32.ofNat s2)), .val (.int (Int32.ofNat l2)), .val (.ref b16), .unset] [(.ref b1), (.ref b16)])) _
  refine Own.go (fun t k => XS.iload X72.here hx rfl (hb hby at_149) rfl k) ?_
  show Own.Fin p e below (T72.setTop (mkF m 151 #[.val (.int p0), .val (.int p1), .val (.int p2), .val (.int p3), .val (.int p4), .val (.int p5), .val (.ref b1), .val (.ref b6), .val (.int (Int32.ofNat s1)), .val (.int (Int32.ofNat l1)), .val (.int (Int32.ofNat s2)), .val (.int (Int32.ofNat l2)), .val (.ref b16), .unset] [(.int (Int32.ofNat s2)), (.ref b1), (.ref b16)])) _
  refine Own.go (fun t k => XS.iload X72.here hx rfl (hb hby at_151) rfl k) ?_
  show Own.Fin p e below (T72.setTop (mkF m 153 #[.val (.int p0), .val (.int p1), .val (.int p2), .val (.int p3), .val (.int p4), .val (.int p5), .val (.ref b1), .val (.ref b6), .val (.int (Int32.ofNat s1)), .val (.int (Int32.ofNat l1)), .val (.int (Int32.ofNat s2)), .val (.int (Int32.ofNat l2)), .val (.ref b16), .unset] [(.int (Int32.ofNat l2)), (.int (Int32.ofNat s2)), (.ref b1), (.ref b16)])) _
  refine Own.cV X72 hx hZ hown (hw _ (List.mem_of_getElem? (i := 88) rfl)) (hw _ (List.mem_of_getElem? (i := 89) rfl)) (notFace_of_selects (args := #[]) (mvT hZ (hw _ (List.mem_of_getElem? (i := 91) rfl)))) (hw _ (List.mem_of_getElem? (i := 91) rfl)) (hw _ (List.mem_of_getElem? (i := 90) rfl)) (hw _ (List.mem_of_getElem? (i := 4) rfl)) (hw _ (List.mem_of_getElem? (i := 92) rfl)) (by decide) (rm10 l Z a0 hw [] b16 b1 (Int32.ofNat s2) (Int32.ofNat l2) oa cs fs_ fi_ va72 k1 l1 s2 (s2 + l2) (chA (fun _ => 0) cc 0 s1) cc T72.heap n0 Z72 O72 SC SD SH SL SF SI hcs hc_s hc_i f77 hR72 gv72 f73 goa ho72 ne_b1_oa ne72_b1 (Nat.le_add_right _ _) hb2 (own_b5 hb1 hb2) hcc rfl (by rw [Nat.add_sub_cancel_left])) (by decide) (W := 0) (by decide) (argsL := [(.ref b1), (.int (Int32.ofNat s2)), (.int (Int32.ofNat l2))]) (rest := []) f75 (by rw [hml]; rfl) (lenOf pd_17 rfl) rfl (Nat.le_of_eq rfl) (hb hby at_153) rfl (by decide) (by decide) ?_
  intro T78 L78 v78 X78 hQ78
  obtain ⟨va78, rfl, N78q, K78q, gv78, ho78, hf78, hR78⟩ := hQ78
  have N78 := Fr.app N72 N78q
  have ne78_b1 : b1 ≠ va78 := own_ne hf78 ne72_b1 f73.lt
  have ne78_b6 : b6 ≠ va78 := own_ne hf78 ne72_b6 f74.lt
  have ne78_b16 : b16 ≠ va78 := own_ne hf78 ne72_b16 f75.lt
  have f79 := f73.keep K78q (ninS ne_b1_oa (ninS ne72_b1 nin0))
  have f80 := f74.keep K78q (ninS ne_b6_oa (ninS ne72_b6 nin0))
  have f81 := f75.keep K78q
  have f82 := f76.keep K78q
  have f83 := f77.keep K78q (ninS ne_b16_oa (ninS ne72_b16 nin0))
  have Z78 : n0 ≤ T78.heap.size := Nat.le_trans Z72 K78q.1
  have O78 := O72.keep K78q (allS goa (allS gv72 all0))
  have S78 : k57 ≤ T78.heap.size := Nat.le_trans S72 K78q.1
  rw [own_b7 l1 s2 l2] at hR78
  show Own.Fin p e below (T78.setTop (mkF m 156 #[.val (.int p0), .val (.int p1), .val (.int p2), .val (.int p3), .val (.int p4), .val (.int p5), .val (.ref b1), .val (.ref b6), .val (.int (Int32.ofNat s1)), .val (.int (Int32.ofNat l1)), .val (.int (Int32.ofNat s2)), .val (.int (Int32.ofNat l2)), .val (.ref b16), .unset] [])) _
  refine Own.go (fun t k => XS.aload X78.here hx rfl (hb hby at_156) rfl rfl k) ?_
  show Own.Fin p e below (T78.setTop (mkF m 158 #[.val (.int p0), .val (.int p1), .val (.int p2), .val (.int p3), .val (.int p4), .val (.int p5), .val (.ref b1), .val (.ref b6), .val (.int (Int32.ofNat s1)), .val (.int (Int32.ofNat l1)), .val (.int (Int32.ofNat s2)), .val (.int (Int32.ofNat l2)), .val (.ref b16), .unset] [(.ref b1)])) _
  refine Own.go (fun t k => XS.iconst X78.here hx rfl (hb hby at_158) k) ?_
  show Own.Fin p e below (T78.setTop (mkF m 159 #[.val (.int p0), .val (.int p1), .val (.int p2), .val (.int p3), .val (.int p4), .val (.int p5), .val (.ref b1), .val (.ref b6), .val (.int (Int32.ofNat s1)), .val (.int (Int32.ofNat l1)), .val (.int (Int32.ofNat s2)), .val (.int (Int32.ofNat l2)), .val (.ref b16), .unset] [(.int (0 : Int32)), (.ref b1)])) _
  refine Own.go (fun t k => XS.aload X78.here hx rfl (hb hby at_159) rfl rfl k) ?_
  show Own.Fin p e below (T78.setTop (mkF m 161 #[.val (.int p0), .val (.int p1), .val (.int p2), .val (.int p3), .val (.int p4), .val (.int p5), .val (.ref b1), .val (.ref b6), .val (.int (Int32.ofNat s1)), .val (.int (Int32.ofNat l1)), .val (.int (Int32.ofNat s2)), .val (.int (Int32.ofNat l2)), .val (.ref b16), .unset] [(.ref b1), (.int (0 : Int32)), (.ref b1)])) _
  refine Own.go (fun t k => XS.iconst X78.here hx rfl (hb hby at_161) k) ?_
  show Own.Fin p e below (T78.setTop (mkF m 162 #[.val (.int p0), .val (.int p1), .val (.int p2), .val (.int p3), .val (.int p4), .val (.int p5), .val (.ref b1), .val (.ref b6), .val (.int (Int32.ofNat s1)), .val (.int (Int32.ofNat l1)), .val (.int (Int32.ofNat s2)), .val (.int (Int32.ofNat l2)), .val (.ref b16), .unset] [(.int (0 : Int32)), (.ref b1), (.int (0 : Int32)), (.ref b1)])) _
  refine Own.ldC X78 hx hZ rfl f79 (hb hby at_162) ⟨by decide, by decide⟩ ?_
  intro y84 hy84
  show Own.Fin p e below (T78.setTop (mkF m 163 #[.val (.int p0), .val (.int p1), .val (.int p2), .val (.int p3), .val (.int p4), .val (.int p5), .val (.ref b1), .val (.ref b6), .val (.int (Int32.ofNat s1)), .val (.int (Int32.ofNat l1)), .val (.int (Int32.ofNat s2)), .val (.int (Int32.ofNat l2)), .val (.ref b16), .unset] [(.int y84), (.int (0 : Int32)), (.ref b1)])) _
  refine Own.go (fun t k => XS.iconst X78.here hx rfl (hb hby at_163) k) ?_
  show Own.Fin p e below (T78.setTop (mkF m 164 #[.val (.int p0), .val (.int p1), .val (.int p2), .val (.int p3), .val (.int p4), .val (.int p5), .val (.ref b1), .val (.ref b6), .val (.int (Int32.ofNat s1)), .val (.int (Int32.ofNat l1)), .val (.int (Int32.ofNat s2)), .val (.int (Int32.ofNat l2)), .val (.ref b16), .unset] [(.int (-1 : Int32)), (.int y84), (.int (0 : Int32)), (.ref b1)])) _
  refine Own.go (fun t k => XS.ixor X78.here hx rfl (hb hby at_164) rfl k) ?_
  show Own.Fin p e below (T78.setTop (mkF m 165 #[.val (.int p0), .val (.int p1), .val (.int p2), .val (.int p3), .val (.int p4), .val (.int p5), .val (.ref b1), .val (.ref b6), .val (.int (Int32.ofNat s1)), .val (.int (Int32.ofNat l1)), .val (.int (Int32.ofNat s2)), .val (.int (Int32.ofNat l2)), .val (.ref b16), .unset] [(.int (y84 ^^^ (-1 : Int32))), (.int (0 : Int32)), (.ref b1)])) _
  refine Own.go (fun t k => XS.i2c X78.here hx rfl (hb hby at_165) rfl k) ?_
  show Own.Fin p e below (T78.setTop (mkF m 166 #[.val (.int p0), .val (.int p1), .val (.int p2), .val (.int p3), .val (.int p4), .val (.int p5), .val (.ref b1), .val (.ref b6), .val (.int (Int32.ofNat s1)), .val (.int (Int32.ofNat l1)), .val (.int (Int32.ofNat s2)), .val (.int (Int32.ofNat l2)), .val (.ref b16), .unset] [(.int (((y84 ^^^ (-1 : Int32))).toUInt32.toUInt16.toUInt32.toInt32)), (.int (0 : Int32)), (.ref b1)])) _
  refine stCT X78 hx hZ rfl f79 (hb hby at_166) rfl (by decide) 0 rfl (by decide) ?_
  intro T85 h85 X85 e85 W85 V85
  have N85 := Fr.snoc X85 N78 ge1
  have Z85 : n0 ≤ h85.size := by rw [W85.size]; exact Z78
  have f86 := f80.other W85 (Ne.symm ne6_b1)
  have f87 := f81.wr W85
  have f88 := f82.wr W85
  have f89 := f83.other W85 (Or.inl (Ne.symm ne16_b1))
  have f90 := hR78.wr W85 (Ne.symm ne_b1_oa) (Ne.symm ne78_b1)
  have O85 := O78.wr W85 ge1
  have S85 : k57 ≤ h85.size := by rw [W85.size]; exact S78
  generalize hg85 : upd (fun i => Value.int (Int32.ofNat (cc i))) _ _ = g85 at V85
  show Own.Fin p e below (T85.setTop (mkF m 167 #[.val (.int p0), .val (.int p1), .val (.int p2), .val (.int p3), .val (.int p4), .val (.int p5), .val (.ref b1), .val (.ref b6), .val (.int (Int32.ofNat s1)), .val (.int (Int32.ofNat l1)), .val (.int (Int32.ofNat s2)), .val (.int (Int32.ofNat l2)), .val (.ref b16), .unset] [])) _
  refine Own.go (fun t k => XS.aload X85.here hx rfl (hb hby at_167) rfl rfl k) ?_
  show Own.Fin p e below (T85.setTop (mkF m 169 #[.val (.int p0), .val (.int p1), .val (.int p2), .val (.int p3), .val (.int p4), .val (.int p5), .val (.ref b1), .val (.ref b6), .val (.int (Int32.ofNat s1)), .val (.int (Int32.ofNat l1)), .val (.int (Int32.ofNat s2)), .val (.int (Int32.ofNat l2)), .val (.ref b16), .unset] [(.ref b1)])) _
  refine Own.go (fun t k => XS.iconst X85.here hx rfl (hb hby at_169) k) ?_
  show Own.Fin p e below (T85.setTop (mkF m 170 #[.val (.int p0), .val (.int p1), .val (.int p2), .val (.int p3), .val (.int p4), .val (.int p5), .val (.ref b1), .val (.ref b6), .val (.int (Int32.ofNat s1)), .val (.int (Int32.ofNat l1)), .val (.int (Int32.ofNat s2)), .val (.int (Int32.ofNat l2)), .val (.ref b16), .unset] [(.int (1 : Int32)), (.ref b1)])) _
  refine Own.go (fun t k => XS.aload X85.here hx rfl (hb hby at_170) rfl rfl k) ?_
  show Own.Fin p e below (T85.setTop (mkF m 172 #[.val (.int p0), .val (.int p1), .val (.int p2), .val (.int p3), .val (.int p4), .val (.int p5), .val (.ref b1), .val (.ref b6), .val (.int (Int32.ofNat s1)), .val (.int (Int32.ofNat l1)), .val (.int (Int32.ofNat s2)), .val (.int (Int32.ofNat l2)), .val (.ref b16), .unset] [(.ref b1), (.int (1 : Int32)), (.ref b1)])) _
  refine Own.go (fun t k => XS.iconst X85.here hx rfl (hb hby at_172) k) ?_
  show Own.Fin p e below (T85.setTop (mkF m 173 #[.val (.int p0), .val (.int p1), .val (.int p2), .val (.int p3), .val (.int p4), .val (.int p5), .val (.ref b1), .val (.ref b6), .val (.int (Int32.ofNat s1)), .val (.int (Int32.ofNat l1)), .val (.int (Int32.ofNat s2)), .val (.int (Int32.ofNat l2)), .val (.ref b16), .unset] [(.int (1 : Int32)), (.ref b1), (.int (1 : Int32)), (.ref b1)])) _
  refine Own.ldC X85 hx hZ e85 V85 (hb hby at_173) ⟨by decide, by decide⟩ ?_
  intro y91 hy91
  show Own.Fin p e below (T85.setTop (mkF m 174 #[.val (.int p0), .val (.int p1), .val (.int p2), .val (.int p3), .val (.int p4), .val (.int p5), .val (.ref b1), .val (.ref b6), .val (.int (Int32.ofNat s1)), .val (.int (Int32.ofNat l1)), .val (.int (Int32.ofNat s2)), .val (.int (Int32.ofNat l2)), .val (.ref b16), .unset] [(.int y91), (.int (1 : Int32)), (.ref b1)])) _
  refine Own.go (fun t k => XS.iconst X85.here hx rfl (hb hby at_174) k) ?_
  show Own.Fin p e below (T85.setTop (mkF m 175 #[.val (.int p0), .val (.int p1), .val (.int p2), .val (.int p3), .val (.int p4), .val (.int p5), .val (.ref b1), .val (.ref b6), .val (.int (Int32.ofNat s1)), .val (.int (Int32.ofNat l1)), .val (.int (Int32.ofNat s2)), .val (.int (Int32.ofNat l2)), .val (.ref b16), .unset] [(.int (-1 : Int32)), (.int y91), (.int (1 : Int32)), (.ref b1)])) _
  refine Own.go (fun t k => XS.ixor X85.here hx rfl (hb hby at_175) rfl k) ?_
  show Own.Fin p e below (T85.setTop (mkF m 176 #[.val (.int p0), .val (.int p1), .val (.int p2), .val (.int p3), .val (.int p4), .val (.int p5), .val (.ref b1), .val (.ref b6), .val (.int (Int32.ofNat s1)), .val (.int (Int32.ofNat l1)), .val (.int (Int32.ofNat s2)), .val (.int (Int32.ofNat l2)), .val (.ref b16), .unset] [(.int (y91 ^^^ (-1 : Int32))), (.int (1 : Int32)), (.ref b1)])) _
  refine Own.go (fun t k => XS.i2c X85.here hx rfl (hb hby at_176) rfl k) ?_
  show Own.Fin p e below (T85.setTop (mkF m 177 #[.val (.int p0), .val (.int p1), .val (.int p2), .val (.int p3), .val (.int p4), .val (.int p5), .val (.ref b1), .val (.ref b6), .val (.int (Int32.ofNat s1)), .val (.int (Int32.ofNat l1)), .val (.int (Int32.ofNat s2)), .val (.int (Int32.ofNat l2)), .val (.ref b16), .unset] [(.int (((y91 ^^^ (-1 : Int32))).toUInt32.toUInt16.toUInt32.toInt32)), (.int (1 : Int32)), (.ref b1)])) _
  refine stCT X85 hx hZ e85 V85 (hb hby at_177) rfl (by decide) 1 rfl (by decide) ?_
  intro T92 h92 X92 e92 W92 V92
  have N92 := Fr.snoc X92 N85 ge1
  have Z92 : n0 ≤ h92.size := by rw [W92.size]; exact Z85
  have f93 := f86.other W92 (Ne.symm ne6_b1)
  have f94 := f87.wr W92
  have f95 := f88.wr W92
  have f96 := f89.other W92 (Or.inl (Ne.symm ne16_b1))
  have f97 := f90.wr W92 (Ne.symm ne_b1_oa) (Ne.symm ne78_b1)
  have O92 := O85.wr W92 ge1
  have S92 : k57 ≤ h92.size := by rw [W92.size]; exact S85
  generalize hg92 : upd g85 _ _ = g92 at V92
  show Own.Fin p e below (T92.setTop (mkF m 178 #[.val (.int p0), .val (.int p1), .val (.int p2), .val (.int p3), .val (.int p4), .val (.int p5), .val (.ref b1), .val (.ref b6), .val (.int (Int32.ofNat s1)), .val (.int (Int32.ofNat l1)), .val (.int (Int32.ofNat s2)), .val (.int (Int32.ofNat l2)), .val (.ref b16), .unset] [])) _
  refine Own.go (fun t k => XS.aload X92.here hx rfl (hb hby at_178) rfl rfl k) ?_
  show Own.Fin p e below (T92.setTop (mkF m 180 #[.val (.int p0), .val (.int p1), .val (.int p2), .val (.int p3), .val (.int p4), .val (.int p5), .val (.ref b1), .val (.ref b6), .val (.int (Int32.ofNat s1)), .val (.int (Int32.ofNat l1)), .val (.int (Int32.ofNat s2)), .val (.int (Int32.ofNat l2)), .val (.ref b16), .unset] [(.ref b1)])) _
  refine Own.go (fun t k => XS.iconst X92.here hx rfl (hb hby at_180) k) ?_
  show Own.Fin p e below (T92.setTop (mkF m 181 #[.val (.int p0), .val (.int p1), .val (.int p2), .val (.int p3), .val (.int p4), .val (.int p5), .val (.ref b1), .val (.ref b6), .val (.int (Int32.ofNat s1)), .val (.int (Int32.ofNat l1)), .val (.int (Int32.ofNat s2)), .val (.int (Int32.ofNat l2)), .val (.ref b16), .unset] [(.int (2 : Int32)), (.ref b1)])) _
  refine Own.go (fun t k => XS.aload X92.here hx rfl (hb hby at_181) rfl rfl k) ?_
  show Own.Fin p e below (T92.setTop (mkF m 183 #[.val (.int p0), .val (.int p1), .val (.int p2), .val (.int p3), .val (.int p4), .val (.int p5), .val (.ref b1), .val (.ref b6), .val (.int (Int32.ofNat s1)), .val (.int (Int32.ofNat l1)), .val (.int (Int32.ofNat s2)), .val (.int (Int32.ofNat l2)), .val (.ref b16), .unset] [(.ref b1), (.int (2 : Int32)), (.ref b1)])) _
  refine Own.go (fun t k => XS.iconst X92.here hx rfl (hb hby at_183) k) ?_
  show Own.Fin p e below (T92.setTop (mkF m 184 #[.val (.int p0), .val (.int p1), .val (.int p2), .val (.int p3), .val (.int p4), .val (.int p5), .val (.ref b1), .val (.ref b6), .val (.int (Int32.ofNat s1)), .val (.int (Int32.ofNat l1)), .val (.int (Int32.ofNat s2)), .val (.int (Int32.ofNat l2)), .val (.ref b16), .unset] [(.int (2 : Int32)), (.ref b1), (.int (2 : Int32)), (.ref b1)])) _
  refine Own.ldC X92 hx hZ e92 V92 (hb hby at_184) ⟨by decide, by decide⟩ ?_
  intro y98 hy98
  show Own.Fin p e below (T92.setTop (mkF m 185 #[.val (.int p0), .val (.int p1), .val (.int p2), .val (.int p3), .val (.int p4), .val (.int p5), .val (.ref b1), .val (.ref b6), .val (.int (Int32.ofNat s1)), .val (.int (Int32.ofNat l1)), .val (.int (Int32.ofNat s2)), .val (.int (Int32.ofNat l2)), .val (.ref b16), .unset] [(.int y98), (.int (2 : Int32)), (.ref b1)])) _
  refine Own.go (fun t k => XS.iconst X92.here hx rfl (hb hby at_185) k) ?_
  show Own.Fin p e below (T92.setTop (mkF m 186 #[.val (.int p0), .val (.int p1), .val (.int p2), .val (.int p3), .val (.int p4), .val (.int p5), .val (.ref b1), .val (.ref b6), .val (.int (Int32.ofNat s1)), .val (.int (Int32.ofNat l1)), .val (.int (Int32.ofNat s2)), .val (.int (Int32.ofNat l2)), .val (.ref b16), .unset] [(.int (-1 : Int32)), (.int y98), (.int (2 : Int32)), (.ref b1)])) _
  refine Own.go (fun t k => XS.ixor X92.here hx rfl (hb hby at_186) rfl k) ?_
  show Own.Fin p e below (T92.setTop (mkF m 187 #[.val (.int p0), .val (.int p1), .val (.int p2), .val (.int p3), .val (.int p4), .val (.int p5), .val (.ref b1), .val (.ref b6), .val (.int (Int32.ofNat s1)), .val (.int (Int32.ofNat l1)), .val (.int (Int32.ofNat s2)), .val (.int (Int32.ofNat l2)), .val (.ref b16), .unset] [(.int (y98 ^^^ (-1 : Int32))), (.int (2 : Int32)), (.ref b1)])) _
  refine Own.go (fun t k => XS.i2c X92.here hx rfl (hb hby at_187) rfl k) ?_
  show Own.Fin p e below (T92.setTop (mkF m 188 #[.val (.int p0), .val (.int p1), .val (.int p2), .val (.int p3), .val (.int p4), .val (.int p5), .val (.ref b1), .val (.ref b6), .val (.int (Int32.ofNat s1)), .val (.int (Int32.ofNat l1)), .val (.int (Int32.ofNat s2)), .val (.int (Int32.ofNat l2)), .val (.ref b16), .unset] [(.int (((y98 ^^^ (-1 : Int32))).toUInt32.toUInt16.toUInt32.toInt32)), (.int (2 : Int32)), (.ref b1)])) _
  refine stCT X92 hx hZ e92 V92 (hb hby at_188) rfl (by decide) 2 rfl (by decide) ?_
  intro T99 h99 X99 e99 W99 V99
  have N99 := Fr.snoc X99 N92 ge1
  have Z99 : n0 ≤ h99.size := by rw [W99.size]; exact Z92
  have f100 := f93.other W99 (Ne.symm ne6_b1)
  have f101 := f94.wr W99
  have f102 := f95.wr W99
  have f103 := f96.other W99 (Or.inl (Ne.symm ne16_b1))
  have f104 := f97.wr W99 (Ne.symm ne_b1_oa) (Ne.symm ne78_b1)
  have O99 := O92.wr W99 ge1
  have S99 : k57 ≤ h99.size := by rw [W99.size]; exact S92
  generalize hg99 : upd g92 _ _ = g99 at V99
  show Own.Fin p e below (T99.setTop (mkF m 189 #[.val (.int p0), .val (.int p1), .val (.int p2), .val (.int p3), .val (.int p4), .val (.int p5), .val (.ref b1), .val (.ref b6), .val (.int (Int32.ofNat s1)), .val (.int (Int32.ofNat l1)), .val (.int (Int32.ofNat s2)), .val (.int (Int32.ofNat l2)), .val (.ref b16), .unset] [])) _
  refine Own.go (fun t k => XS.aload X99.here hx rfl (hb hby at_189) rfl rfl k) ?_
  show Own.Fin p e below (T99.setTop (mkF m 191 #[.val (.int p0), .val (.int p1), .val (.int p2), .val (.int p3), .val (.int p4), .val (.int p5), .val (.ref b1), .val (.ref b6), .val (.int (Int32.ofNat s1)), .val (.int (Int32.ofNat l1)), .val (.int (Int32.ofNat s2)), .val (.int (Int32.ofNat l2)), .val (.ref b16), .unset] [(.ref b1)])) _
  refine Own.go (fun t k => XS.iconst X99.here hx rfl (hb hby at_191) k) ?_
  show Own.Fin p e below (T99.setTop (mkF m 192 #[.val (.int p0), .val (.int p1), .val (.int p2), .val (.int p3), .val (.int p4), .val (.int p5), .val (.ref b1), .val (.ref b6), .val (.int (Int32.ofNat s1)), .val (.int (Int32.ofNat l1)), .val (.int (Int32.ofNat s2)), .val (.int (Int32.ofNat l2)), .val (.ref b16), .unset] [(.int (3 : Int32)), (.ref b1)])) _
  refine Own.go (fun t k => XS.aload X99.here hx rfl (hb hby at_192) rfl rfl k) ?_
  show Own.Fin p e below (T99.setTop (mkF m 194 #[.val (.int p0), .val (.int p1), .val (.int p2), .val (.int p3), .val (.int p4), .val (.int p5), .val (.ref b1), .val (.ref b6), .val (.int (Int32.ofNat s1)), .val (.int (Int32.ofNat l1)), .val (.int (Int32.ofNat s2)), .val (.int (Int32.ofNat l2)), .val (.ref b16), .unset] [(.ref b1), (.int (3 : Int32)), (.ref b1)])) _
  refine Own.go (fun t k => XS.iconst X99.here hx rfl (hb hby at_194) k) ?_
  show Own.Fin p e below (T99.setTop (mkF m 195 #[.val (.int p0), .val (.int p1), .val (.int p2), .val (.int p3), .val (.int p4), .val (.int p5), .val (.ref b1), .val (.ref b6), .val (.int (Int32.ofNat s1)), .val (.int (Int32.ofNat l1)), .val (.int (Int32.ofNat s2)), .val (.int (Int32.ofNat l2)), .val (.ref b16), .unset] [(.int (3 : Int32)), (.ref b1), (.int (3 : Int32)), (.ref b1)])) _
  refine Own.ldC X99 hx hZ e99 V99 (hb hby at_195) ⟨by decide, by decide⟩ ?_
  intro y105 hy105
  show Own.Fin p e below (T99.setTop (mkF m 196 #[.val (.int p0), .val (.int p1), .val (.int p2), .val (.int p3), .val (.int p4), .val (.int p5), .val (.ref b1), .val (.ref b6), .val (.int (Int32.ofNat s1)), .val (.int (Int32.ofNat l1)), .val (.int (Int32.ofNat s2)), .val (.int (Int32.ofNat l2)), .val (.ref b16), .unset] [(.int y105), (.int (3 : Int32)), (.ref b1)])) _
  refine Own.go (fun t k => XS.iconst X99.here hx rfl (hb hby at_196) k) ?_
  show Own.Fin p e below (T99.setTop (mkF m 197 #[.val (.int p0), .val (.int p1), .val (.int p2), .val (.int p3), .val (.int p4), .val (.int p5), .val (.ref b1), .val (.ref b6), .val (.int (Int32.ofNat s1)), .val (.int (Int32.ofNat l1)), .val (.int (Int32.ofNat s2)), .val (.int (Int32.ofNat l2)), .val (.ref b16), .unset] [(.int (-1 : Int32)), (.int y105), (.int (3 : Int32)), (.ref b1)])) _
  refine Own.go (fun t k => XS.ixor X99.here hx rfl (hb hby at_197) rfl k) ?_
  show Own.Fin p e below (T99.setTop (mkF m 198 #[.val (.int p0), .val (.int p1), .val (.int p2), .val (.int p3), .val (.int p4), .val (.int p5), .val (.ref b1), .val (.ref b6), .val (.int (Int32.ofNat s1)), .val (.int (Int32.ofNat l1)), .val (.int (Int32.ofNat s2)), .val (.int (Int32.ofNat l2)), .val (.ref b16), .unset] [(.int (y105 ^^^ (-1 : Int32))), (.int (3 : Int32)), (.ref b1)])) _
  refine Own.go (fun t k => XS.i2c X99.here hx rfl (hb hby at_198) rfl k) ?_
  show Own.Fin p e below (T99.setTop (mkF m 199 #[.val (.int p0), .val (.int p1), .val (.int p2), .val (.int p3), .val (.int p4), .val (.int p5), .val (.ref b1), .val (.ref b6), .val (.int (Int32.ofNat s1)), .val (.int (Int32.ofNat l1)), .val (.int (Int32.ofNat s2)), .val (.int (Int32.ofNat l2)), .val (.ref b16), .unset] [(.int (((y105 ^^^ (-1 : Int32))).toUInt32.toUInt16.toUInt32.toInt32)), (.int (3 : Int32)), (.ref b1)])) _
  refine stCT X99 hx hZ e99 V99 (hb hby at_199) rfl (by decide) 3 rfl (by decide) ?_
  intro T106 h106 X106 e106 W106 V106
  have N106 := Fr.snoc X106 N99 ge1
  have Z106 : n0 ≤ h106.size := by rw [W106.size]; exact Z99
  have f107 := f100.other W106 (Ne.symm ne6_b1)
  have f108 := f101.wr W106
  have f109 := f102.wr W106
  have f110 := f103.other W106 (Or.inl (Ne.symm ne16_b1))
  have f111 := f104.wr W106 (Ne.symm ne_b1_oa) (Ne.symm ne78_b1)
  have O106 := O99.wr W106 ge1
  have S106 : k57 ≤ h106.size := by rw [W106.size]; exact S99
  generalize hg106 : upd g99 _ _ = g106 at V106
  show Own.Fin p e below (T106.setTop (mkF m 200 #[.val (.int p0), .val (.int p1), .val (.int p2), .val (.int p3), .val (.int p4), .val (.int p5), .val (.ref b1), .val (.ref b6), .val (.int (Int32.ofNat s1)), .val (.int (Int32.ofNat l1)), .val (.int (Int32.ofNat s2)), .val (.int (Int32.ofNat l2)), .val (.ref b16), .unset] [])) _
  refine Own.go (fun t k => XS.aload X106.here hx rfl (hb hby at_200) rfl rfl k) ?_
  show Own.Fin p e below (T106.setTop (mkF m 202 #[.val (.int p0), .val (.int p1), .val (.int p2), .val (.int p3), .val (.int p4), .val (.int p5), .val (.ref b1), .val (.ref b6), .val (.int (Int32.ofNat s1)), .val (.int (Int32.ofNat l1)), .val (.int (Int32.ofNat s2)), .val (.int (Int32.ofNat l2)), .val (.ref b16), .unset] [(.ref b16)])) _
  refine Own.cV X106 hx hZ hown (hw _ (List.mem_of_getElem? (i := 130) rfl)) (hw _ (List.mem_of_getElem? (i := 131) rfl)) (notFace_of_selects (args := #[]) (mvT hZ (hw _ (List.mem_of_getElem? (i := 133) rfl)))) (hw _ (List.mem_of_getElem? (i := 133) rfl)) (hw _ (List.mem_of_getElem? (i := 132) rfl)) (hw _ (List.mem_of_getElem? (i := 4) rfl)) (hw _ (List.mem_of_getElem? (i := 134) rfl)) (by decide) (rm18 l Z a0 hw [] b16 oa cs va78 (l1 + l2) (chA (chA (fun _ => 0) cc 0 s1) cc l1 s2) h106 n0 Z106 O106 SC hcs f110 f111 ho78 hb3) (by decide) (W := 0) (by decide) (argsL := []) (rest := []) f108 (by rw [hml]; rfl) (lenOf pd_25 rfl) rfl (Nat.le_of_eq rfl) (hb hby at_202) e106 (by decide) (by decide) ?_
  intro T112 L112 v112 X112 hQ112
  obtain ⟨ta, rfl, N112q, K112q, hT⟩ := hQ112
  have N112 := Fr.app N106 N112q
  have f113 := V106.keep K112q nin0
  have f114 := f107.keep K112q nin0
  have f115 := f108.keep K112q
  have f116 := f109.keep K112q
  have f117 := f110.keep K112q nin0
  have Z112 : n0 ≤ T112.heap.size := Nat.le_trans Z106 K112q.1
  have O112 := O106.keep K112q all0
  have S112 : k57 ≤ T112.heap.size := Nat.le_trans S106 K112q.1
  have Et := hT.1
  show Own.Fin p e below (T112.setTop (mkF m 205 #[.val (.int p0), .val (.int p1), .val (.int p2), .val (.int p3), .val (.int p4), .val (.int p5), .val (.ref b1), .val (.ref b6), .val (.int (Int32.ofNat s1)), .val (.int (Int32.ofNat l1)), .val (.int (Int32.ofNat s2)), .val (.int (Int32.ofNat l2)), .val (.ref b16), .unset] [(.ref ta)])) _
  refine Own.go (fun t k => XS.astore X112.here hx rfl (hb hby at_205) rfl rfl (l' := #[.val (.int p0), .val (.int p1), .val (.int p2), .val (.int p3), .val (.int p4), .val (.int p5), .val (.ref b1), .val (.ref b6), .val (.int (Int32.ofNat s1)), .val (.int (Int32.ofNat l1)), .val (.int (Int32.ofNat s2)), .val (.int (Int32.ofNat l2)), .val (.ref b16), .val (.ref ta)]) rfl k) ?_
  show Own.Fin p e below (T112.setTop (mkF m 207 #[.val (.int p0), .val (.int p1), .val (.int p2), .val (.int p3), .val (.int p4), .val (.int p5), .val (.ref b1), .val (.ref b6), .val (.int (Int32.ofNat s1)), .val (.int (Int32.ofNat l1)), .val (.int (Int32.ofNat s2)), .val (.int (Int32.ofNat l2)), .val (.ref b16), .val (.ref ta)] [])) _
  refine Own.go (fun t k => XS.aload X112.here hx rfl (hb hby at_207) rfl rfl k) ?_
  show Own.Fin p e below (T112.setTop (mkF m 209 #[.val (.int p0), .val (.int p1), .val (.int p2), .val (.int p3), .val (.int p4), .val (.int p5), .val (.ref b1), .val (.ref b6), .val (.int (Int32.ofNat s1)), .val (.int (Int32.ofNat l1)), .val (.int (Int32.ofNat s2)), .val (.int (Int32.ofNat l2)), .val (.ref b16), .val (.ref ta)] [(.ref ta)])) _
  refine Own.cV X112 hx hZ hown (hw _ (List.mem_of_getElem? (i := 183) rfl)) (hw _ (List.mem_of_getElem? (i := 184) rfl)) (notFace_of_selects (args := #[]) (mvT hZ (hw _ (List.mem_of_getElem? (i := 186) rfl)))) (hw _ (List.mem_of_getElem? (i := 186) rfl)) (hw _ (List.mem_of_getElem? (i := 185) rfl)) (hw _ (List.mem_of_getElem? (i := 9) rfl)) (hw _ (List.mem_of_getElem? (i := 187) rfl)) (by decide) (rm29 l Z a0 hw [] ta cs (l1 + l2) (chA (chA (fun _ => 0) cc 0 s1) cc l1 s2) T112.heap n0 Z112 O112 SC hcs hT hb3) (by decide) (W := 0) (by decide) (argsL := []) (rest := []) Et (by rw [hml]; rfl) (lenOf pd_11 rfl) rfl (Nat.le_of_eq rfl) (hb hby at_209) rfl (by decide) (by decide) ?_
  intro T118 L118 v118 X118 hQ118
  obtain ⟨rfl, N118q, e118⟩ := hQ118
  have N118 := Fr.app N112 N118q
  show Own.Fin p e below (T118.setTop (mkF m 212 #[.val (.int p0), .val (.int p1), .val (.int p2), .val (.int p3), .val (.int p4), .val (.int p5), .val (.ref b1), .val (.ref b6), .val (.int (Int32.ofNat s1)), .val (.int (Int32.ofNat l1)), .val (.int (Int32.ofNat s2)), .val (.int (Int32.ofNat l2)), .val (.ref b16), .val (.ref ta)] [(.int (Int32.ofNat (l1 + l2)))])) _
  refine Own.go (fun t k => XS.iload X118.here hx rfl (hb hby at_212) rfl k) ?_
  show Own.Fin p e below (T118.setTop (mkF m 214 #[.val (.int p0), .val (.int p1), .val (.int p2), .val (.int p3), .val (.int p4), .val (.int p5), .val (.ref b1), .val (.ref b6), .val (.int (Int32.ofNat s1)), .val (.int (Int32.ofNat l1)), .val (.int (Int32.ofNat s2)), .val (.int (Int32.ofNat l2)), .val (.ref b16), .val (.ref ta)] [(.int (Int32.ofNat l1)), (.int (Int32.ofNat (l1 + l2)))])) _
  refine Own.go (fun t k => XS.iload X118.here hx rfl (hb hby at_214) rfl k) ?_
  show Own.Fin p e below (T118.setTop (mkF m 216 #[.val (.int p0), .val (.int p1), .val (.int p2), .val (.int p3), .val (.int p4), .val (.int p5), .val (.ref b1), .val (.ref b6), .val (.int (Int32.ofNat s1)), .val (.int (Int32.ofNat l1)), .val (.int (Int32.ofNat s2)), .val (.int (Int32.ofNat l2)), .val (.ref b16), .val (.ref ta)] [(.int (Int32.ofNat l2)), (.int (Int32.ofNat l1)), (.int (Int32.ofNat (l1 + l2)))])) _
  refine Own.go (fun t k => XS.iadd X118.here hx rfl (hb hby at_216) rfl k) ?_
  show Own.Fin p e below (T118.setTop (mkF m 217 #[.val (.int p0), .val (.int p1), .val (.int p2), .val (.int p3), .val (.int p4), .val (.int p5), .val (.ref b1), .val (.ref b6), .val (.int (Int32.ofNat s1)), .val (.int (Int32.ofNat l1)), .val (.int (Int32.ofNat s2)), .val (.int (Int32.ofNat l2)), .val (.ref b16), .val (.ref ta)] [(.int ((Int32.ofNat l1) + (Int32.ofNat l2))), (.int (Int32.ofNat (l1 + l2)))])) _
  have hc217_118 : (Int32.ofNat (l1 + l2)) = ((Int32.ofNat l1) + (Int32.ofNat l2)) := (Int32.ofNat_add l1 l2)
  refine Own.go (fun t k => XS.icmpYes X118.here hx rfl (pc0 := 217) (pc' := 222) rfl (hb hby at_217) rfl (teq hc217_118).1 (by decide) (by decide) k) ?_
  show Own.Fin p e below (T118.setTop (mkF m 222 #[.val (.int p0), .val (.int p1), .val (.int p2), .val (.int p3), .val (.int p4), .val (.int p5), .val (.ref b1), .val (.ref b6), .val (.int (Int32.ofNat s1)), .val (.int (Int32.ofNat l1)), .val (.int (Int32.ofNat s2)), .val (.int (Int32.ofNat l2)), .val (.ref b16), .val (.ref ta)] [])) _
  refine Own.go (fun t k => XS.aload X118.here hx rfl (hb hby at_222) rfl rfl k) ?_
  show Own.Fin p e below (T118.setTop (mkF m 224 #[.val (.int p0), .val (.int p1), .val (.int p2), .val (.int p3), .val (.int p4), .val (.int p5), .val (.ref b1), .val (.ref b6), .val (.int (Int32.ofNat s1)), .val (.int (Int32.ofNat l1)), .val (.int (Int32.ofNat s2)), .val (.int (Int32.ofNat l2)), .val (.ref b16), .val (.ref ta)] [(.ref ta)])) _
  refine Own.go (fun t k => XS.iconst X118.here hx rfl (hb hby at_224) k) ?_
  show Own.Fin p e below (T118.setTop (mkF m 225 #[.val (.int p0), .val (.int p1), .val (.int p2), .val (.int p3), .val (.int p4), .val (.int p5), .val (.ref b1), .val (.ref b6), .val (.int (Int32.ofNat s1)), .val (.int (Int32.ofNat l1)), .val (.int (Int32.ofNat s2)), .val (.int (Int32.ofNat l2)), .val (.ref b16), .val (.ref ta)] [(.int (0 : Int32)), (.ref ta)])) _
  refine Own.go (fun t k => XS.aload X118.here hx rfl (hb hby at_225) rfl rfl k) ?_
  show Own.Fin p e below (T118.setTop (mkF m 227 #[.val (.int p0), .val (.int p1), .val (.int p2), .val (.int p3), .val (.int p4), .val (.int p5), .val (.ref b1), .val (.ref b6), .val (.int (Int32.ofNat s1)), .val (.int (Int32.ofNat l1)), .val (.int (Int32.ofNat s2)), .val (.int (Int32.ofNat l2)), .val (.ref b16), .val (.ref ta)] [(.ref b6), (.int (0 : Int32)), (.ref ta)])) _
  refine Own.go (fun t k => XS.iload X118.here hx rfl (hb hby at_227) rfl k) ?_
  show Own.Fin p e below (T118.setTop (mkF m 229 #[.val (.int p0), .val (.int p1), .val (.int p2), .val (.int p3), .val (.int p4), .val (.int p5), .val (.ref b1), .val (.ref b6), .val (.int (Int32.ofNat s1)), .val (.int (Int32.ofNat l1)), .val (.int (Int32.ofNat s2)), .val (.int (Int32.ofNat l2)), .val (.ref b16), .val (.ref ta)] [(.int (Int32.ofNat s1)), (.ref b6), (.int (0 : Int32)), (.ref ta)])) _
  refine Own.go (fun t k => XS.iload X118.here hx rfl (hb hby at_229) rfl k) ?_
  show Own.Fin p e below (T118.setTop (mkF m 231 #[.val (.int p0), .val (.int p1), .val (.int p2), .val (.int p3), .val (.int p4), .val (.int p5), .val (.ref b1), .val (.ref b6), .val (.int (Int32.ofNat s1)), .val (.int (Int32.ofNat l1)), .val (.int (Int32.ofNat s2)), .val (.int (Int32.ofNat l2)), .val (.ref b16), .val (.ref ta)] [(.int (Int32.ofNat l1)), (.int (Int32.ofNat s1)), (.ref b6), (.int (0 : Int32)), (.ref ta)])) _
  refine Own.go (fun t k => XS.iload X118.here hx rfl (hb hby at_231) rfl k) ?_
  show Own.Fin p e below (T118.setTop (mkF m 233 #[.val (.int p0), .val (.int p1), .val (.int p2), .val (.int p3), .val (.int p4), .val (.int p5), .val (.ref b1), .val (.ref b6), .val (.int (Int32.ofNat s1)), .val (.int (Int32.ofNat l1)), .val (.int (Int32.ofNat s2)), .val (.int (Int32.ofNat l2)), .val (.ref b16), .val (.ref ta)] [(.int (Int32.ofNat s2)), (.int (Int32.ofNat l1)), (.int (Int32.ofNat s1)), (.ref b6), (.int (0 : Int32)), (.ref ta)])) _
  refine Own.cS X118 hx hZ hown (hw _ (List.mem_of_getElem? (i := 194) rfl)) (hw _ (List.mem_of_getElem? (i := 195) rfl)) (hw _ (List.mem_of_getElem? (i := 196) rfl)) (hw _ (List.mem_of_getElem? (i := 197) rfl)) (by decide) (rm31 l Z a0 hw [] ta (0 : Int32) b6 (Int32.ofNat s1) (Int32.ofNat l1) (Int32.ofNat s2) cs fs_ k6 (l1 + l2) 0 s1 l1 s2 (chA (chA (fun _ => 0) cc 0 s1) cc l1 s2) cc T112.heap n0 Z112 O112 SC SD SH SL SF hcs hc_s hT hb3 f114 rfl (by decide) rfl rfl rfl hb1 hb4 (Nat.le_add_right _ _) hcc (fun i hi => by simp [chA])) (by decide) (W := 0) (by decide) (argsL := [(.ref ta), (.int (0 : Int32)), (.ref b6), (.int (Int32.ofNat s1)), (.int (Int32.ofNat l1)), (.int (Int32.ofNat s2))]) (rest := []) (by rw [hml]; rfl) (lenOf pd_32 rfl) rfl (Nat.le_of_eq rfl) (hb hby at_233) e118 (by decide) (by decide) ?_
  intro T120 L120 v120 X120 hQ120
  obtain ⟨rfl, N120q, e120⟩ := hQ120
  have N120 := Fr.app N118 N120q
  show Own.Fin p e below (T120.setTop (mkF m 236 #[.val (.int p0), .val (.int p1), .val (.int p2), .val (.int p3), .val (.int p4), .val (.int p5), .val (.ref b1), .val (.ref b6), .val (.int (Int32.ofNat s1)), .val (.int (Int32.ofNat l1)), .val (.int (Int32.ofNat s2)), .val (.int (Int32.ofNat l2)), .val (.ref b16), .val (.ref ta)] [(.int (1 : Int32))])) _
  have hc236_120 : ¬ ((1 : Int32) = (0 : Int32)) := by decide
  refine Own.go (fun t k => XS.ifNo X120.here hx rfl (hb hby at_236) rfl ((if0 _ _).trans (feq hc236_120).1) k) ?_
  show Own.Fin p e below (T120.setTop (mkF m 239 #[.val (.int p0), .val (.int p1), .val (.int p2), .val (.int p3), .val (.int p4), .val (.int p5), .val (.ref b1), .val (.ref b6), .val (.int (Int32.ofNat s1)), .val (.int (Int32.ofNat l1)), .val (.int (Int32.ofNat s2)), .val (.int (Int32.ofNat l2)), .val (.ref b16), .val (.ref ta)] [])) _
  refine Own.go (fun t k => XS.aload X120.here hx rfl (hb hby at_239) rfl rfl k) ?_
  show Own.Fin p e below (T120.setTop (mkF m 241 #[.val (.int p0), .val (.int p1), .val (.int p2), .val (.int p3), .val (.int p4), .val (.int p5), .val (.ref b1), .val (.ref b6), .val (.int (Int32.ofNat s1)), .val (.int (Int32.ofNat l1)), .val (.int (Int32.ofNat s2)), .val (.int (Int32.ofNat l2)), .val (.ref b16), .val (.ref ta)] [(.ref ta)])) _
  refine Own.go (fun t k => XS.iconst X120.here hx rfl (hb hby at_241) k) ?_
  show Own.Fin p e below (T120.setTop (mkF m 242 #[.val (.int p0), .val (.int p1), .val (.int p2), .val (.int p3), .val (.int p4), .val (.int p5), .val (.ref b1), .val (.ref b6), .val (.int (Int32.ofNat s1)), .val (.int (Int32.ofNat l1)), .val (.int (Int32.ofNat s2)), .val (.int (Int32.ofNat l2)), .val (.ref b16), .val (.ref ta)] [(.int (1 : Int32)), (.ref ta)])) _
  refine Own.go (fun t k => XS.aload X120.here hx rfl (hb hby at_242) rfl rfl k) ?_
  show Own.Fin p e below (T120.setTop (mkF m 244 #[.val (.int p0), .val (.int p1), .val (.int p2), .val (.int p3), .val (.int p4), .val (.int p5), .val (.ref b1), .val (.ref b6), .val (.int (Int32.ofNat s1)), .val (.int (Int32.ofNat l1)), .val (.int (Int32.ofNat s2)), .val (.int (Int32.ofNat l2)), .val (.ref b16), .val (.ref ta)] [(.ref b6), (.int (1 : Int32)), (.ref ta)])) _
  refine Own.go (fun t k => XS.iload X120.here hx rfl (hb hby at_244) rfl k) ?_
  show Own.Fin p e below (T120.setTop (mkF m 246 #[.val (.int p0), .val (.int p1), .val (.int p2), .val (.int p3), .val (.int p4), .val (.int p5), .val (.ref b1), .val (.ref b6), .val (.int (Int32.ofNat s1)), .val (.int (Int32.ofNat l1)), .val (.int (Int32.ofNat s2)), .val (.int (Int32.ofNat l2)), .val (.ref b16), .val (.ref ta)] [(.int (Int32.ofNat s1)), (.ref b6), (.int (1 : Int32)), (.ref ta)])) _
  refine Own.go (fun t k => XS.iload X120.here hx rfl (hb hby at_246) rfl k) ?_
  show Own.Fin p e below (T120.setTop (mkF m 248 #[.val (.int p0), .val (.int p1), .val (.int p2), .val (.int p3), .val (.int p4), .val (.int p5), .val (.ref b1), .val (.ref b6), .val (.int (Int32.ofNat s1)), .val (.int (Int32.ofNat l1)), .val (.int (Int32.ofNat s2)), .val (.int (Int32.ofNat l2)), .val (.ref b16), .val (.ref ta)] [(.int (Int32.ofNat l1)), (.int (Int32.ofNat s1)), (.ref b6), (.int (1 : Int32)), (.ref ta)])) _
  refine Own.go (fun t k => XS.iload X120.here hx rfl (hb hby at_248) rfl k) ?_
  show Own.Fin p e below (T120.setTop (mkF m 250 #[.val (.int p0), .val (.int p1), .val (.int p2), .val (.int p3), .val (.int p4), .val (.int p5), .val (.ref b1), .val (.ref b6), .val (.int (Int32.ofNat s1)), .val (.int (Int32.ofNat l1)), .val (.int (Int32.ofNat s2)), .val (.int (Int32.ofNat l2)), .val (.ref b16), .val (.ref ta)] [(.int (Int32.ofNat s2)), (.int (Int32.ofNat l1)), (.int (Int32.ofNat s1)), (.ref b6), (.int (1 : Int32)), (.ref ta)])) _
  refine Own.cS X120 hx hZ hown (hw _ (List.mem_of_getElem? (i := 194) rfl)) (hw _ (List.mem_of_getElem? (i := 195) rfl)) (hw _ (List.mem_of_getElem? (i := 196) rfl)) (hw _ (List.mem_of_getElem? (i := 197) rfl)) (by decide) (rm31 l Z a0 hw [] ta (1 : Int32) b6 (Int32.ofNat s1) (Int32.ofNat l1) (Int32.ofNat s2) cs fs_ k6 (l1 + l2) 1 s1 l1 s2 (chA (chA (fun _ => 0) cc 0 s1) cc l1 s2) cc T112.heap n0 Z112 O112 SC SD SH SL SF hcs hc_s hT hb3 f114 rfl (by decide) rfl rfl rfl hb1 hb4 (Nat.le_add_right _ _) hcc (fun i hi => by simp [chA])) (by decide) (W := 0) (by decide) (argsL := [(.ref ta), (.int (1 : Int32)), (.ref b6), (.int (Int32.ofNat s1)), (.int (Int32.ofNat l1)), (.int (Int32.ofNat s2))]) (rest := []) (by rw [hml]; rfl) (lenOf pd_32 rfl) rfl (Nat.le_of_eq rfl) (hb hby at_250) e120 (by decide) (by decide) ?_
  intro T122 L122 v122 X122 hQ122
  obtain ⟨rfl, N122q, e122⟩ := hQ122
  have N122 := Fr.app N120 N122q
  show Own.Fin p e below (T122.setTop (mkF m 253 #[.val (.int p0), .val (.int p1), .val (.int p2), .val (.int p3), .val (.int p4), .val (.int p5), .val (.ref b1), .val (.ref b6), .val (.int (Int32.ofNat s1)), .val (.int (Int32.ofNat l1)), .val (.int (Int32.ofNat s2)), .val (.int (Int32.ofNat l2)), .val (.ref b16), .val (.ref ta)] [(.int (1 : Int32))])) _
  have hc253_122 : ¬ ((1 : Int32) = (0 : Int32)) := by decide
  refine Own.go (fun t k => XS.ifNo X122.here hx rfl (hb hby at_253) rfl ((if0 _ _).trans (feq hc253_122).1) k) ?_
  show Own.Fin p e below (T122.setTop (mkF m 256 #[.val (.int p0), .val (.int p1), .val (.int p2), .val (.int p3), .val (.int p4), .val (.int p5), .val (.ref b1), .val (.ref b6), .val (.int (Int32.ofNat s1)), .val (.int (Int32.ofNat l1)), .val (.int (Int32.ofNat s2)), .val (.int (Int32.ofNat l2)), .val (.ref b16), .val (.ref ta)] [])) _
  refine Own.go (fun t k => XS.aload X122.here hx rfl (hb hby at_256) rfl rfl k) ?_
  show Own.Fin p e below (T122.setTop (mkF m 258 #[.val (.int p0), .val (.int p1), .val (.int p2), .val (.int p3), .val (.int p4), .val (.int p5), .val (.ref b1), .val (.ref b6), .val (.int (Int32.ofNat s1)), .val (.int (Int32.ofNat l1)), .val (.int (Int32.ofNat s2)), .val (.int (Int32.ofNat l2)), .val (.ref b16), .val (.ref ta)] [(.ref ta)])) _
  refine Own.go (fun t k => XS.iconst X122.here hx rfl (hb hby at_258) k) ?_
  show Own.Fin p e below (T122.setTop (mkF m 259 #[.val (.int p0), .val (.int p1), .val (.int p2), .val (.int p3), .val (.int p4), .val (.int p5), .val (.ref b1), .val (.ref b6), .val (.int (Int32.ofNat s1)), .val (.int (Int32.ofNat l1)), .val (.int (Int32.ofNat s2)), .val (.int (Int32.ofNat l2)), .val (.ref b16), .val (.ref ta)] [(.int (2 : Int32)), (.ref ta)])) _
  refine Own.go (fun t k => XS.aload X122.here hx rfl (hb hby at_259) rfl rfl k) ?_
  show Own.Fin p e below (T122.setTop (mkF m 261 #[.val (.int p0), .val (.int p1), .val (.int p2), .val (.int p3), .val (.int p4), .val (.int p5), .val (.ref b1), .val (.ref b6), .val (.int (Int32.ofNat s1)), .val (.int (Int32.ofNat l1)), .val (.int (Int32.ofNat s2)), .val (.int (Int32.ofNat l2)), .val (.ref b16), .val (.ref ta)] [(.ref b6), (.int (2 : Int32)), (.ref ta)])) _
  refine Own.go (fun t k => XS.iload X122.here hx rfl (hb hby at_261) rfl k) ?_
  show Own.Fin p e below (T122.setTop (mkF m 263 #[.val (.int p0), .val (.int p1), .val (.int p2), .val (.int p3), .val (.int p4), .val (.int p5), .val (.ref b1), .val (.ref b6), .val (.int (Int32.ofNat s1)), .val (.int (Int32.ofNat l1)), .val (.int (Int32.ofNat s2)), .val (.int (Int32.ofNat l2)), .val (.ref b16), .val (.ref ta)] [(.int (Int32.ofNat s1)), (.ref b6), (.int (2 : Int32)), (.ref ta)])) _
  refine Own.go (fun t k => XS.iload X122.here hx rfl (hb hby at_263) rfl k) ?_
  show Own.Fin p e below (T122.setTop (mkF m 265 #[.val (.int p0), .val (.int p1), .val (.int p2), .val (.int p3), .val (.int p4), .val (.int p5), .val (.ref b1), .val (.ref b6), .val (.int (Int32.ofNat s1)), .val (.int (Int32.ofNat l1)), .val (.int (Int32.ofNat s2)), .val (.int (Int32.ofNat l2)), .val (.ref b16), .val (.ref ta)] [(.int (Int32.ofNat l1)), (.int (Int32.ofNat s1)), (.ref b6), (.int (2 : Int32)), (.ref ta)])) _
  refine Own.go (fun t k => XS.iload X122.here hx rfl (hb hby at_265) rfl k) ?_
  show Own.Fin p e below (T122.setTop (mkF m 267 #[.val (.int p0), .val (.int p1), .val (.int p2), .val (.int p3), .val (.int p4), .val (.int p5), .val (.ref b1), .val (.ref b6), .val (.int (Int32.ofNat s1)), .val (.int (Int32.ofNat l1)), .val (.int (Int32.ofNat s2)), .val (.int (Int32.ofNat l2)), .val (.ref b16), .val (.ref ta)] [(.int (Int32.ofNat s2)), (.int (Int32.ofNat l1)), (.int (Int32.ofNat s1)), (.ref b6), (.int (2 : Int32)), (.ref ta)])) _
  refine Own.cS X122 hx hZ hown (hw _ (List.mem_of_getElem? (i := 194) rfl)) (hw _ (List.mem_of_getElem? (i := 195) rfl)) (hw _ (List.mem_of_getElem? (i := 196) rfl)) (hw _ (List.mem_of_getElem? (i := 197) rfl)) (by decide) (rm31 l Z a0 hw [] ta (2 : Int32) b6 (Int32.ofNat s1) (Int32.ofNat l1) (Int32.ofNat s2) cs fs_ k6 (l1 + l2) 2 s1 l1 s2 (chA (chA (fun _ => 0) cc 0 s1) cc l1 s2) cc T112.heap n0 Z112 O112 SC SD SH SL SF hcs hc_s hT hb3 f114 rfl (by decide) rfl rfl rfl hb1 hb4 (Nat.le_add_right _ _) hcc (fun i hi => by simp [chA])) (by decide) (W := 0) (by decide) (argsL := [(.ref ta), (.int (2 : Int32)), (.ref b6), (.int (Int32.ofNat s1)), (.int (Int32.ofNat l1)), (.int (Int32.ofNat s2))]) (rest := []) (by rw [hml]; rfl) (lenOf pd_32 rfl) rfl (Nat.le_of_eq rfl) (hb hby at_267) e122 (by decide) (by decide) ?_
  intro T124 L124 v124 X124 hQ124
  obtain ⟨rfl, N124q, e124⟩ := hQ124
  have N124 := Fr.app N122 N124q
  show Own.Fin p e below (T124.setTop (mkF m 270 #[.val (.int p0), .val (.int p1), .val (.int p2), .val (.int p3), .val (.int p4), .val (.int p5), .val (.ref b1), .val (.ref b6), .val (.int (Int32.ofNat s1)), .val (.int (Int32.ofNat l1)), .val (.int (Int32.ofNat s2)), .val (.int (Int32.ofNat l2)), .val (.ref b16), .val (.ref ta)] [(.int (1 : Int32))])) _
  have hc270_124 : ¬ ((1 : Int32) = (0 : Int32)) := by decide
  refine Own.go (fun t k => XS.ifNo X124.here hx rfl (hb hby at_270) rfl ((if0 _ _).trans (feq hc270_124).1) k) ?_
  show Own.Fin p e below (T124.setTop (mkF m 273 #[.val (.int p0), .val (.int p1), .val (.int p2), .val (.int p3), .val (.int p4), .val (.int p5), .val (.ref b1), .val (.ref b6), .val (.int (Int32.ofNat s1)), .val (.int (Int32.ofNat l1)), .val (.int (Int32.ofNat s2)), .val (.int (Int32.ofNat l2)), .val (.ref b16), .val (.ref ta)] [])) _
  refine Own.go (fun t k => XS.aload X124.here hx rfl (hb hby at_273) rfl rfl k) ?_
  show Own.Fin p e below (T124.setTop (mkF m 275 #[.val (.int p0), .val (.int p1), .val (.int p2), .val (.int p3), .val (.int p4), .val (.int p5), .val (.ref b1), .val (.ref b6), .val (.int (Int32.ofNat s1)), .val (.int (Int32.ofNat l1)), .val (.int (Int32.ofNat s2)), .val (.int (Int32.ofNat l2)), .val (.ref b16), .val (.ref ta)] [(.ref ta)])) _
  refine Own.go (fun t k => XS.iconst X124.here hx rfl (hb hby at_275) k) ?_
  show Own.Fin p e below (T124.setTop (mkF m 276 #[.val (.int p0), .val (.int p1), .val (.int p2), .val (.int p3), .val (.int p4), .val (.int p5), .val (.ref b1), .val (.ref b6), .val (.int (Int32.ofNat s1)), .val (.int (Int32.ofNat l1)), .val (.int (Int32.ofNat s2)), .val (.int (Int32.ofNat l2)), .val (.ref b16), .val (.ref ta)] [(.int (3 : Int32)), (.ref ta)])) _
  refine Own.go (fun t k => XS.aload X124.here hx rfl (hb hby at_276) rfl rfl k) ?_
  show Own.Fin p e below (T124.setTop (mkF m 278 #[.val (.int p0), .val (.int p1), .val (.int p2), .val (.int p3), .val (.int p4), .val (.int p5), .val (.ref b1), .val (.ref b6), .val (.int (Int32.ofNat s1)), .val (.int (Int32.ofNat l1)), .val (.int (Int32.ofNat s2)), .val (.int (Int32.ofNat l2)), .val (.ref b16), .val (.ref ta)] [(.ref b6), (.int (3 : Int32)), (.ref ta)])) _
  refine Own.go (fun t k => XS.iload X124.here hx rfl (hb hby at_278) rfl k) ?_
  show Own.Fin p e below (T124.setTop (mkF m 280 #[.val (.int p0), .val (.int p1), .val (.int p2), .val (.int p3), .val (.int p4), .val (.int p5), .val (.ref b1), .val (.ref b6), .val (.int (Int32.ofNat s1)), .val (.int (Int32.ofNat l1)), .val (.int (Int32.ofNat s2)), .val (.int (Int32.ofNat l2)), .val (.ref b16), .val (.ref ta)] [(.int (Int32.ofNat s1)), (.ref b6), (.int (3 : Int32)), (.ref ta)])) _
  refine Own.go (fun t k => XS.iload X124.here hx rfl (hb hby at_280) rfl k) ?_
  show Own.Fin p e below (T124.setTop (mkF m 282 #[.val (.int p0), .val (.int p1), .val (.int p2), .val (.int p3), .val (.int p4), .val (.int p5), .val (.ref b1), .val (.ref b6), .val (.int (Int32.ofNat s1)), .val (.int (Int32.ofNat l1)), .val (.int (Int32.ofNat s2)), .val (.int (Int32.ofNat l2)), .val (.ref b16), .val (.ref ta)] [(.int (Int32.ofNat l1)), (.int (Int32.ofNat s1)), (.ref b6), (.int (3 : Int32)), (.ref ta)])) _
  refine Own.go (fun t k => XS.iload X124.here hx rfl (hb hby at_282) rfl k) ?_
  show Own.Fin p e below (T124.setTop (mkF m 284 #[.val (.int p0), .val (.int p1), .val (.int p2), .val (.int p3), .val (.int p4), .val (.int p5), .val (.ref b1), .val (.ref b6), .val (.int (Int32.ofNat s1)), .val (.int (Int32.ofNat l1)), .val (.int (Int32.ofNat s2)), .val (.int (Int32.ofNat l2)), .val (.ref b16), .val (.ref ta)] [(.int (Int32.ofNat s2)), (.int (Int32.ofNat l1)), (.int (Int32.ofNat s1)), (.ref b6), (.int (3 : Int32)), (.ref ta)])) _
  refine Own.cS X124 hx hZ hown (hw _ (List.mem_of_getElem? (i := 194) rfl)) (hw _ (List.mem_of_getElem? (i := 195) rfl)) (hw _ (List.mem_of_getElem? (i := 196) rfl)) (hw _ (List.mem_of_getElem? (i := 197) rfl)) (by decide) (rm31 l Z a0 hw [] ta (3 : Int32) b6 (Int32.ofNat s1) (Int32.ofNat l1) (Int32.ofNat s2) cs fs_ k6 (l1 + l2) 3 s1 l1 s2 (chA (chA (fun _ => 0) cc 0 s1) cc l1 s2) cc T112.heap n0 Z112 O112 SC SD SH SL SF hcs hc_s hT hb3 f114 rfl (by decide) rfl rfl rfl hb1 hb4 (Nat.le_add_right _ _) hcc (fun i hi => by simp [chA])) (by decide) (W := 0) (by decide) (argsL := [(.ref ta), (.int (3 : Int32)), (.ref b6), (.int (Int32.ofNat s1)), (.int (Int32.ofNat l1)), (.int (Int32.ofNat s2))]) (rest := []) (by rw [hml]; rfl) (lenOf pd_32 rfl) rfl (Nat.le_of_eq rfl) (hb hby at_284) e124 (by decide) (by decide) ?_
  intro T126 L126 v126 X126 hQ126
  obtain ⟨rfl, N126q, e126⟩ := hQ126
  have N126 := Fr.app N124 N126q
  show Own.Fin p e below (T126.setTop (mkF m 287 #[.val (.int p0), .val (.int p1), .val (.int p2), .val (.int p3), .val (.int p4), .val (.int p5), .val (.ref b1), .val (.ref b6), .val (.int (Int32.ofNat s1)), .val (.int (Int32.ofNat l1)), .val (.int (Int32.ofNat s2)), .val (.int (Int32.ofNat l2)), .val (.ref b16), .val (.ref ta)] [(.int (1 : Int32))])) _
  have hc287_126 : ¬ ((1 : Int32) = (0 : Int32)) := by decide
  refine Own.go (fun t k => XS.ifNo X126.here hx rfl (hb hby at_287) rfl ((if0 _ _).trans (feq hc287_126).1) k) ?_
  show Own.Fin p e below (T126.setTop (mkF m 290 #[.val (.int p0), .val (.int p1), .val (.int p2), .val (.int p3), .val (.int p4), .val (.int p5), .val (.ref b1), .val (.ref b6), .val (.int (Int32.ofNat s1)), .val (.int (Int32.ofNat l1)), .val (.int (Int32.ofNat s2)), .val (.int (Int32.ofNat l2)), .val (.ref b16), .val (.ref ta)] [])) _
  refine Own.go (fun t k => XS.aload X126.here hx rfl (hb hby at_290) rfl rfl k) ?_
  show Own.Fin p e below (T126.setTop (mkF m 292 #[.val (.int p0), .val (.int p1), .val (.int p2), .val (.int p3), .val (.int p4), .val (.int p5), .val (.ref b1), .val (.ref b6), .val (.int (Int32.ofNat s1)), .val (.int (Int32.ofNat l1)), .val (.int (Int32.ofNat s2)), .val (.int (Int32.ofNat l2)), .val (.ref b16), .val (.ref ta)] [(.ref ta)])) _
  refine Own.go (fun t k => XS.iconst X126.here hx rfl (hb hby at_292) k) ?_
  show Own.Fin p e below (T126.setTop (mkF m 293 #[.val (.int p0), .val (.int p1), .val (.int p2), .val (.int p3), .val (.int p4), .val (.int p5), .val (.ref b1), .val (.ref b6), .val (.int (Int32.ofNat s1)), .val (.int (Int32.ofNat l1)), .val (.int (Int32.ofNat s2)), .val (.int (Int32.ofNat l2)), .val (.ref b16), .val (.ref ta)] [(.int (4 : Int32)), (.ref ta)])) _
  refine Own.go (fun t k => XS.aload X126.here hx rfl (hb hby at_293) rfl rfl k) ?_
  show Own.Fin p e below (T126.setTop (mkF m 295 #[.val (.int p0), .val (.int p1), .val (.int p2), .val (.int p3), .val (.int p4), .val (.int p5), .val (.ref b1), .val (.ref b6), .val (.int (Int32.ofNat s1)), .val (.int (Int32.ofNat l1)), .val (.int (Int32.ofNat s2)), .val (.int (Int32.ofNat l2)), .val (.ref b16), .val (.ref ta)] [(.ref b6), (.int (4 : Int32)), (.ref ta)])) _
  refine Own.go (fun t k => XS.iload X126.here hx rfl (hb hby at_295) rfl k) ?_
  show Own.Fin p e below (T126.setTop (mkF m 297 #[.val (.int p0), .val (.int p1), .val (.int p2), .val (.int p3), .val (.int p4), .val (.int p5), .val (.ref b1), .val (.ref b6), .val (.int (Int32.ofNat s1)), .val (.int (Int32.ofNat l1)), .val (.int (Int32.ofNat s2)), .val (.int (Int32.ofNat l2)), .val (.ref b16), .val (.ref ta)] [(.int (Int32.ofNat s1)), (.ref b6), (.int (4 : Int32)), (.ref ta)])) _
  refine Own.go (fun t k => XS.iload X126.here hx rfl (hb hby at_297) rfl k) ?_
  show Own.Fin p e below (T126.setTop (mkF m 299 #[.val (.int p0), .val (.int p1), .val (.int p2), .val (.int p3), .val (.int p4), .val (.int p5), .val (.ref b1), .val (.ref b6), .val (.int (Int32.ofNat s1)), .val (.int (Int32.ofNat l1)), .val (.int (Int32.ofNat s2)), .val (.int (Int32.ofNat l2)), .val (.ref b16), .val (.ref ta)] [(.int (Int32.ofNat l1)), (.int (Int32.ofNat s1)), (.ref b6), (.int (4 : Int32)), (.ref ta)])) _
  refine Own.go (fun t k => XS.iload X126.here hx rfl (hb hby at_299) rfl k) ?_
  show Own.Fin p e below (T126.setTop (mkF m 301 #[.val (.int p0), .val (.int p1), .val (.int p2), .val (.int p3), .val (.int p4), .val (.int p5), .val (.ref b1), .val (.ref b6), .val (.int (Int32.ofNat s1)), .val (.int (Int32.ofNat l1)), .val (.int (Int32.ofNat s2)), .val (.int (Int32.ofNat l2)), .val (.ref b16), .val (.ref ta)] [(.int (Int32.ofNat s2)), (.int (Int32.ofNat l1)), (.int (Int32.ofNat s1)), (.ref b6), (.int (4 : Int32)), (.ref ta)])) _
  refine Own.cS X126 hx hZ hown (hw _ (List.mem_of_getElem? (i := 194) rfl)) (hw _ (List.mem_of_getElem? (i := 195) rfl)) (hw _ (List.mem_of_getElem? (i := 196) rfl)) (hw _ (List.mem_of_getElem? (i := 197) rfl)) (by decide) (rm31 l Z a0 hw [] ta (4 : Int32) b6 (Int32.ofNat s1) (Int32.ofNat l1) (Int32.ofNat s2) cs fs_ k6 (l1 + l2) 4 s1 l1 s2 (chA (chA (fun _ => 0) cc 0 s1) cc l1 s2) cc T112.heap n0 Z112 O112 SC SD SH SL SF hcs hc_s hT hb3 f114 rfl (by decide) rfl rfl rfl hb1 hb4 (Nat.le_add_right _ _) hcc (fun i hi => by simp [chA])) (by decide) (W := 0) (by decide) (argsL := [(.ref ta), (.int (4 : Int32)), (.ref b6), (.int (Int32.ofNat s1)), (.int (Int32.ofNat l1)), (.int (Int32.ofNat s2))]) (rest := []) (by rw [hml]; rfl) (lenOf pd_32 rfl) rfl (Nat.le_of_eq rfl) (hb hby at_301) e126 (by decide) (by decide) ?_
  intro T128 L128 v128 X128 hQ128
  obtain ⟨rfl, N128q, e128⟩ := hQ128
  have N128 := Fr.app N126 N128q
  show Own.Fin p e below (T128.setTop (mkF m 304 #[.val (.int p0), .val (.int p1), .val (.int p2), .val (.int p3), .val (.int p4), .val (.int p5), .val (.ref b1), .val (.ref b6), .val (.int (Int32.ofNat s1)), .val (.int (Int32.ofNat l1)), .val (.int (Int32.ofNat s2)), .val (.int (Int32.ofNat l2)), .val (.ref b16), .val (.ref ta)] [(.int (1 : Int32))])) _
  have hc304_128 : ¬ ((1 : Int32) = (0 : Int32)) := by decide
  refine Own.go (fun t k => XS.ifNo X128.here hx rfl (hb hby at_304) rfl ((if0 _ _).trans (feq hc304_128).1) k) ?_
  show Own.Fin p e below (T128.setTop (mkF m 307 #[.val (.int p0), .val (.int p1), .val (.int p2), .val (.int p3), .val (.int p4), .val (.int p5), .val (.ref b1), .val (.ref b6), .val (.int (Int32.ofNat s1)), .val (.int (Int32.ofNat l1)), .val (.int (Int32.ofNat s2)), .val (.int (Int32.ofNat l2)), .val (.ref b16), .val (.ref ta)] [])) _
  refine Own.go (fun t k => XS.aload X128.here hx rfl (hb hby at_307) rfl rfl k) ?_
  show Own.Fin p e below (T128.setTop (mkF m 309 #[.val (.int p0), .val (.int p1), .val (.int p2), .val (.int p3), .val (.int p4), .val (.int p5), .val (.ref b1), .val (.ref b6), .val (.int (Int32.ofNat s1)), .val (.int (Int32.ofNat l1)), .val (.int (Int32.ofNat s2)), .val (.int (Int32.ofNat l2)), .val (.ref b16), .val (.ref ta)] [(.ref ta)])) _
  refine Own.go (fun t k => XS.iconst X128.here hx rfl (hb hby at_309) k) ?_
  show Own.Fin p e below (T128.setTop (mkF m 310 #[.val (.int p0), .val (.int p1), .val (.int p2), .val (.int p3), .val (.int p4), .val (.int p5), .val (.ref b1), .val (.ref b6), .val (.int (Int32.ofNat s1)), .val (.int (Int32.ofNat l1)), .val (.int (Int32.ofNat s2)), .val (.int (Int32.ofNat l2)), .val (.ref b16), .val (.ref ta)] [(.int (5 : Int32)), (.ref ta)])) _
  refine Own.go (fun t k => XS.aload X128.here hx rfl (hb hby at_310) rfl rfl k) ?_
  show Own.Fin p e below (T128.setTop (mkF m 312 #[.val (.int p0), .val (.int p1), .val (.int p2), .val (.int p3), .val (.int p4), .val (.int p5), .val (.ref b1), .val (.ref b6), .val (.int (Int32.ofNat s1)), .val (.int (Int32.ofNat l1)), .val (.int (Int32.ofNat s2)), .val (.int (Int32.ofNat l2)), .val (.ref b16), .val (.ref ta)] [(.ref b6), (.int (5 : Int32)), (.ref ta)])) _
  refine Own.go (fun t k => XS.iload X128.here hx rfl (hb hby at_312) rfl k) ?_
  show Own.Fin p e below (T128.setTop (mkF m 314 #[.val (.int p0), .val (.int p1), .val (.int p2), .val (.int p3), .val (.int p4), .val (.int p5), .val (.ref b1), .val (.ref b6), .val (.int (Int32.ofNat s1)), .val (.int (Int32.ofNat l1)), .val (.int (Int32.ofNat s2)), .val (.int (Int32.ofNat l2)), .val (.ref b16), .val (.ref ta)] [(.int (Int32.ofNat s1)), (.ref b6), (.int (5 : Int32)), (.ref ta)])) _
  refine Own.go (fun t k => XS.iload X128.here hx rfl (hb hby at_314) rfl k) ?_
  show Own.Fin p e below (T128.setTop (mkF m 316 #[.val (.int p0), .val (.int p1), .val (.int p2), .val (.int p3), .val (.int p4), .val (.int p5), .val (.ref b1), .val (.ref b6), .val (.int (Int32.ofNat s1)), .val (.int (Int32.ofNat l1)), .val (.int (Int32.ofNat s2)), .val (.int (Int32.ofNat l2)), .val (.ref b16), .val (.ref ta)] [(.int (Int32.ofNat l1)), (.int (Int32.ofNat s1)), (.ref b6), (.int (5 : Int32)), (.ref ta)])) _
  refine Own.go (fun t k => XS.iload X128.here hx rfl (hb hby at_316) rfl k) ?_
  show Own.Fin p e below (T128.setTop (mkF m 318 #[.val (.int p0), .val (.int p1), .val (.int p2), .val (.int p3), .val (.int p4), .val (.int p5), .val (.ref b1), .val (.ref b6), .val (.int (Int32.ofNat s1)), .val (.int (Int32.ofNat l1)), .val (.int (Int32.ofNat s2)), .val (.int (Int32.ofNat l2)), .val (.ref b16), .val (.ref ta)] [(.int (Int32.ofNat s2)), (.int (Int32.ofNat l1)), (.int (Int32.ofNat s1)), (.ref b6), (.int (5 : Int32)), (.ref ta)])) _
  refine Own.cS X128 hx hZ hown (hw _ (List.mem_of_getElem? (i := 194) rfl)) (hw _ (List.mem_of_getElem? (i := 195) rfl)) (hw _ (List.mem_of_getElem? (i := 196) rfl)) (hw _ (List.mem_of_getElem? (i := 197) rfl)) (by decide) (rm31 l Z a0 hw [] ta (5 : Int32) b6 (Int32.ofNat s1) (Int32.ofNat l1) (Int32.ofNat s2) cs fs_ k6 (l1 + l2) 5 s1 l1 s2 (chA (chA (fun _ => 0) cc 0 s1) cc l1 s2) cc T112.heap n0 Z112 O112 SC SD SH SL SF hcs hc_s hT hb3 f114 rfl (by decide) rfl rfl rfl hb1 hb4 (Nat.le_add_right _ _) hcc (fun i hi => by simp [chA])) (by decide) (W := 0) (by decide) (argsL := [(.ref ta), (.int (5 : Int32)), (.ref b6), (.int (Int32.ofNat s1)), (.int (Int32.ofNat l1)), (.int (Int32.ofNat s2))]) (rest := []) (by rw [hml]; rfl) (lenOf pd_32 rfl) rfl (Nat.le_of_eq rfl) (hb hby at_318) e128 (by decide) (by decide) ?_
  intro T130 L130 v130 X130 hQ130
  obtain ⟨rfl, N130q, e130⟩ := hQ130
  have N130 := Fr.app N128 N130q
  show Own.Fin p e below (T130.setTop (mkF m 321 #[.val (.int p0), .val (.int p1), .val (.int p2), .val (.int p3), .val (.int p4), .val (.int p5), .val (.ref b1), .val (.ref b6), .val (.int (Int32.ofNat s1)), .val (.int (Int32.ofNat l1)), .val (.int (Int32.ofNat s2)), .val (.int (Int32.ofNat l2)), .val (.ref b16), .val (.ref ta)] [(.int (1 : Int32))])) _
  have hc321_130 : ¬ ((1 : Int32) = (0 : Int32)) := by decide
  refine Own.go (fun t k => XS.ifNo X130.here hx rfl (hb hby at_321) rfl ((if0 _ _).trans (feq hc321_130).1) k) ?_
  show Own.Fin p e below (T130.setTop (mkF m 324 #[.val (.int p0), .val (.int p1), .val (.int p2), .val (.int p3), .val (.int p4), .val (.int p5), .val (.ref b1), .val (.ref b6), .val (.int (Int32.ofNat s1)), .val (.int (Int32.ofNat l1)), .val (.int (Int32.ofNat s2)), .val (.int (Int32.ofNat l2)), .val (.ref b16), .val (.ref ta)] [])) _
  refine Own.go (fun t k => XS.aload X130.here hx rfl (hb hby at_324) rfl rfl k) ?_
  show Own.Fin p e below (T130.setTop (mkF m 326 #[.val (.int p0), .val (.int p1), .val (.int p2), .val (.int p3), .val (.int p4), .val (.int p5), .val (.ref b1), .val (.ref b6), .val (.int (Int32.ofNat s1)), .val (.int (Int32.ofNat l1)), .val (.int (Int32.ofNat s2)), .val (.int (Int32.ofNat l2)), .val (.ref b16), .val (.ref ta)] [(.ref ta)])) _
  refine Own.go (fun t k => XS.bipush X130.here hx rfl (hb hby at_326) k) ?_
  show Own.Fin p e below (T130.setTop (mkF m 328 #[.val (.int p0), .val (.int p1), .val (.int p2), .val (.int p3), .val (.int p4), .val (.int p5), .val (.ref b1), .val (.ref b6), .val (.int (Int32.ofNat s1)), .val (.int (Int32.ofNat l1)), .val (.int (Int32.ofNat s2)), .val (.int (Int32.ofNat l2)), .val (.ref b16), .val (.ref ta)] [(.int (6 : Int32)), (.ref ta)])) _
  refine Own.go (fun t k => XS.aload X130.here hx rfl (hb hby at_328) rfl rfl k) ?_
  show Own.Fin p e below (T130.setTop (mkF m 330 #[.val (.int p0), .val (.int p1), .val (.int p2), .val (.int p3), .val (.int p4), .val (.int p5), .val (.ref b1), .val (.ref b6), .val (.int (Int32.ofNat s1)), .val (.int (Int32.ofNat l1)), .val (.int (Int32.ofNat s2)), .val (.int (Int32.ofNat l2)), .val (.ref b16), .val (.ref ta)] [(.ref b6), (.int (6 : Int32)), (.ref ta)])) _
  refine Own.go (fun t k => XS.iload X130.here hx rfl (hb hby at_330) rfl k) ?_
  show Own.Fin p e below (T130.setTop (mkF m 332 #[.val (.int p0), .val (.int p1), .val (.int p2), .val (.int p3), .val (.int p4), .val (.int p5), .val (.ref b1), .val (.ref b6), .val (.int (Int32.ofNat s1)), .val (.int (Int32.ofNat l1)), .val (.int (Int32.ofNat s2)), .val (.int (Int32.ofNat l2)), .val (.ref b16), .val (.ref ta)] [(.int (Int32.ofNat s1)), (.ref b6), (.int (6 : Int32)), (.ref ta)])) _
  refine Own.go (fun t k => XS.iload X130.here hx rfl (hb hby at_332) rfl k) ?_
  show Own.Fin p e below (T130.setTop (mkF m 334 #[.val (.int p0), .val (.int p1), .val (.int p2), .val (.int p3), .val (.int p4), .val (.int p5), .val (.ref b1), .val (.ref b6), .val (.int (Int32.ofNat s1)), .val (.int (Int32.ofNat l1)), .val (.int (Int32.ofNat s2)), .val (.int (Int32.ofNat l2)), .val (.ref b16), .val (.ref ta)] [(.int (Int32.ofNat l1)), (.int (Int32.ofNat s1)), (.ref b6), (.int (6 : Int32)), (.ref ta)])) _
  refine Own.go (fun t k => XS.iload X130.here hx rfl (hb hby at_334) rfl k) ?_
  show Own.Fin p e below (T130.setTop (mkF m 336 #[.val (.int p0), .val (.int p1), .val (.int p2), .val (.int p3), .val (.int p4), .val (.int p5), .val (.ref b1), .val (.ref b6), .val (.int (Int32.ofNat s1)), .val (.int (Int32.ofNat l1)), .val (.int (Int32.ofNat s2)), .val (.int (Int32.ofNat l2)), .val (.ref b16), .val (.ref ta)] [(.int (Int32.ofNat s2)), (.int (Int32.ofNat l1)), (.int (Int32.ofNat s1)), (.ref b6), (.int (6 : Int32)), (.ref ta)])) _
  refine Own.cS X130 hx hZ hown (hw _ (List.mem_of_getElem? (i := 194) rfl)) (hw _ (List.mem_of_getElem? (i := 195) rfl)) (hw _ (List.mem_of_getElem? (i := 196) rfl)) (hw _ (List.mem_of_getElem? (i := 197) rfl)) (by decide) (rm31 l Z a0 hw [] ta (6 : Int32) b6 (Int32.ofNat s1) (Int32.ofNat l1) (Int32.ofNat s2) cs fs_ k6 (l1 + l2) 6 s1 l1 s2 (chA (chA (fun _ => 0) cc 0 s1) cc l1 s2) cc T112.heap n0 Z112 O112 SC SD SH SL SF hcs hc_s hT hb3 f114 rfl (by decide) rfl rfl rfl hb1 hb4 (Nat.le_add_right _ _) hcc (fun i hi => by simp [chA])) (by decide) (W := 0) (by decide) (argsL := [(.ref ta), (.int (6 : Int32)), (.ref b6), (.int (Int32.ofNat s1)), (.int (Int32.ofNat l1)), (.int (Int32.ofNat s2))]) (rest := []) (by rw [hml]; rfl) (lenOf pd_32 rfl) rfl (Nat.le_of_eq rfl) (hb hby at_336) e130 (by decide) (by decide) ?_
  intro T132 L132 v132 X132 hQ132
  obtain ⟨rfl, N132q, e132⟩ := hQ132
  have N132 := Fr.app N130 N132q
  show Own.Fin p e below (T132.setTop (mkF m 339 #[.val (.int p0), .val (.int p1), .val (.int p2), .val (.int p3), .val (.int p4), .val (.int p5), .val (.ref b1), .val (.ref b6), .val (.int (Int32.ofNat s1)), .val (.int (Int32.ofNat l1)), .val (.int (Int32.ofNat s2)), .val (.int (Int32.ofNat l2)), .val (.ref b16), .val (.ref ta)] [(.int (1 : Int32))])) _
  have hc339_132 : ¬ ((1 : Int32) = (0 : Int32)) := by decide
  refine Own.go (fun t k => XS.ifNo X132.here hx rfl (hb hby at_339) rfl ((if0 _ _).trans (feq hc339_132).1) k) ?_
  show Own.Fin p e below (T132.setTop (mkF m 342 #[.val (.int p0), .val (.int p1), .val (.int p2), .val (.int p3), .val (.int p4), .val (.int p5), .val (.ref b1), .val (.ref b6), .val (.int (Int32.ofNat s1)), .val (.int (Int32.ofNat l1)), .val (.int (Int32.ofNat s2)), .val (.int (Int32.ofNat l2)), .val (.ref b16), .val (.ref ta)] [])) _
  refine Own.go (fun t k => XS.aload X132.here hx rfl (hb hby at_342) rfl rfl k) ?_
  show Own.Fin p e below (T132.setTop (mkF m 344 #[.val (.int p0), .val (.int p1), .val (.int p2), .val (.int p3), .val (.int p4), .val (.int p5), .val (.ref b1), .val (.ref b6), .val (.int (Int32.ofNat s1)), .val (.int (Int32.ofNat l1)), .val (.int (Int32.ofNat s2)), .val (.int (Int32.ofNat l2)), .val (.ref b16), .val (.ref ta)] [(.ref ta)])) _
  refine Own.go (fun t k => XS.bipush X132.here hx rfl (hb hby at_344) k) ?_
  show Own.Fin p e below (T132.setTop (mkF m 346 #[.val (.int p0), .val (.int p1), .val (.int p2), .val (.int p3), .val (.int p4), .val (.int p5), .val (.ref b1), .val (.ref b6), .val (.int (Int32.ofNat s1)), .val (.int (Int32.ofNat l1)), .val (.int (Int32.ofNat s2)), .val (.int (Int32.ofNat l2)), .val (.ref b16), .val (.ref ta)] [(.int (7 : Int32)), (.ref ta)])) _
  refine Own.go (fun t k => XS.aload X132.here hx rfl (hb hby at_346) rfl rfl k) ?_
  show Own.Fin p e below (T132.setTop (mkF m 348 #[.val (.int p0), .val (.int p1), .val (.int p2), .val (.int p3), .val (.int p4), .val (.int p5), .val (.ref b1), .val (.ref b6), .val (.int (Int32.ofNat s1)), .val (.int (Int32.ofNat l1)), .val (.int (Int32.ofNat s2)), .val (.int (Int32.ofNat l2)), .val (.ref b16), .val (.ref ta)] [(.ref b6), (.int (7 : Int32)), (.ref ta)])) _
  refine Own.go (fun t k => XS.iload X132.here hx rfl (hb hby at_348) rfl k) ?_
  show Own.Fin p e below (T132.setTop (mkF m 350 #[.val (.int p0), .val (.int p1), .val (.int p2), .val (.int p3), .val (.int p4), .val (.int p5), .val (.ref b1), .val (.ref b6), .val (.int (Int32.ofNat s1)), .val (.int (Int32.ofNat l1)), .val (.int (Int32.ofNat s2)), .val (.int (Int32.ofNat l2)), .val (.ref b16), .val (.ref ta)] [(.int (Int32.ofNat s1)), (.ref b6), (.int (7 : Int32)), (.ref ta)])) _
  refine Own.go (fun t k => XS.iload X132.here hx rfl (hb hby at_350) rfl k) ?_
  show Own.Fin p e below (T132.setTop (mkF m 352 #[.val (.int p0), .val (.int p1), .val (.int p2), .val (.int p3), .val (.int p4), .val (.int p5), .val (.ref b1), .val (.ref b6), .val (.int (Int32.ofNat s1)), .val (.int (Int32.ofNat l1)), .val (.int (Int32.ofNat s2)), .val (.int (Int32.ofNat l2)), .val (.ref b16), .val (.ref ta)] [(.int (Int32.ofNat l1)), (.int (Int32.ofNat s1)), (.ref b6), (.int (7 : Int32)), (.ref ta)])) _
  refine Own.go (fun t k => XS.iload X132.here hx rfl (hb hby at_352) rfl k) ?_
  show Own.Fin p e below (T132.setTop (mkF m 354 #[.val (.int p0), .val (.int p1), .val (.int p2), .val (.int p3), .val (.int p4), .val (.int p5), .val (.ref b1), .val (.ref b6), .val (.int (Int32.ofNat s1)), .val (.int (Int32.ofNat l1)), .val (.int (Int32.ofNat s2)), .val (.int (Int32.ofNat l2)), .val (.ref b16), .val (.ref ta)] [(.int (Int32.ofNat s2)), (.int (Int32.ofNat l1)), (.int (Int32.ofNat s1)), (.ref b6), (.int (7 : Int32)), (.ref ta)])) _
  refine Own.cS X132 hx hZ hown (hw _ (List.mem_of_getElem? (i := 194) rfl)) (hw _ (List.mem_of_getElem? (i := 195) rfl)) (hw _ (List.mem_of_getElem? (i := 196) rfl)) (hw _ (List.mem_of_getElem? (i := 197) rfl)) (by decide) (rm31 l Z a0 hw [] ta (7 : Int32) b6 (Int32.ofNat s1) (Int32.ofNat l1) (Int32.ofNat s2) cs fs_ k6 (l1 + l2) 7 s1 l1 s2 (chA (chA (fun _ => 0) cc 0 s1) cc l1 s2) cc T112.heap n0 Z112 O112 SC SD SH SL SF hcs hc_s hT hb3 f114 rfl (by decide) rfl rfl rfl hb1 hb4 (Nat.le_add_right _ _) hcc (fun i hi => by simp [chA])) (by decide) (W := 0) (by decide) (argsL := [(.ref ta), (.int (7 : Int32)), (.ref b6), (.int (Int32.ofNat s1)), (.int (Int32.ofNat l1)), (.int (Int32.ofNat s2))]) (rest := []) (by rw [hml]; rfl) (lenOf pd_32 rfl) rfl (Nat.le_of_eq rfl) (hb hby at_354) e132 (by decide) (by decide) ?_
  intro T134 L134 v134 X134 hQ134
  obtain ⟨rfl, N134q, e134⟩ := hQ134
  have N134 := Fr.app N132 N134q
  show Own.Fin p e below (T134.setTop (mkF m 357 #[.val (.int p0), .val (.int p1), .val (.int p2), .val (.int p3), .val (.int p4), .val (.int p5), .val (.ref b1), .val (.ref b6), .val (.int (Int32.ofNat s1)), .val (.int (Int32.ofNat l1)), .val (.int (Int32.ofNat s2)), .val (.int (Int32.ofNat l2)), .val (.ref b16), .val (.ref ta)] [(.int (1 : Int32))])) _
  have hc357_134 : ¬ ((1 : Int32) = (0 : Int32)) := by decide
  refine Own.go (fun t k => XS.ifNo X134.here hx rfl (hb hby at_357) rfl ((if0 _ _).trans (feq hc357_134).1) k) ?_
  show Own.Fin p e below (T134.setTop (mkF m 360 #[.val (.int p0), .val (.int p1), .val (.int p2), .val (.int p3), .val (.int p4), .val (.int p5), .val (.ref b1), .val (.ref b6), .val (.int (Int32.ofNat s1)), .val (.int (Int32.ofNat l1)), .val (.int (Int32.ofNat s2)), .val (.int (Int32.ofNat l2)), .val (.ref b16), .val (.ref ta)] [])) _
  refine Own.go (fun t k => XS.iconst X134.here hx rfl (hb hby at_360) k) ?_
  show Own.Fin p e below (T134.setTop (mkF m 361 #[.val (.int p0), .val (.int p1), .val (.int p2), .val (.int p3), .val (.int p4), .val (.int p5), .val (.ref b1), .val (.ref b6), .val (.int (Int32.ofNat s1)), .val (.int (Int32.ofNat l1)), .val (.int (Int32.ofNat s2)), .val (.int (Int32.ofNat l2)), .val (.ref b16), .val (.ref ta)] [(.int (1 : Int32))])) _
  refine Own.go (fun t k => XS.goto X134.here hx rfl (pc0 := 361) (pc' := 365) rfl (hb hby at_361) (by decide) (by decide) k) ?_
  show Own.Fin p e below (T134.setTop (mkF m 365 #[.val (.int p0), .val (.int p1), .val (.int p2), .val (.int p3), .val (.int p4), .val (.int p5), .val (.ref b1), .val (.ref b6), .val (.int (Int32.ofNat s1)), .val (.int (Int32.ofNat l1)), .val (.int (Int32.ofNat s2)), .val (.int (Int32.ofNat l2)), .val (.ref b16), .val (.ref ta)] [(.int (1 : Int32))])) _
  refine retNW X134 hS57 (by rw [e134]; exact S112) hx Bd.notSynchronized (t := .boolean) Bd.returns (by simp) (hb hby at_365) (by decide) (by decide) ?_
  exact ⟨rfl, N134⟩
set_option maxRecDepth 65536 in
set_option maxHeartbeats 40000000 in
theorem comes_1 {Post : Tables → Env → Array Value → State → Outcome → State → Prop} (hpost : ∀ tb e args s v u, (limb_1_1.after args s (.returned v) u = true ∧ limb_1_2.after args s (.returned v) u = true ∧ True) → ReturnedEndW s (.returned v) u (Jvm.fieldLocs frame_1_writes args s ++ Jvm.arrayLocs frame_1_arrays args s ++ Jvm.staticLocs frame_1_statics s) 32 2304 → Post tb e args s (.returned v) u) :
    ArmFor flags0 classFile x code maxLocals ret World_1 tables_1 room_1 Calls_1 rest_1 Pre_1 Post := by
  intro l hfl _ _ p e ha hc hk s m args below hf hA hF happ hP
  obtain ⟨hcalls, hrest, hpre⟩ := hP
  obtain ⟨-, -, -, hnamed, -, -, -, hat⟩ := (Spec.applies_iff hf).mp happ
  obtain ⟨hg, hn⟩ := and_e (Cond.before_iff.mp (show (Jvm.Cond.and given_1 narrow_1).before args s = true from hpre))
  obtain ⟨g1, g2⟩ := and_e hg
  obtain ⟨g3, g4⟩ := and_e g2
  obtain ⟨g5, g6⟩ := and_e g4
  obtain ⟨g7, g8⟩ := and_e g6
  obtain ⟨g9, g10⟩ := and_e g8
  obtain ⟨g11, g12⟩ := and_e g10
  obtain ⟨w0, w1, w2, w3, w4, w5, rfl⟩ : ∃ w0 w1 w2 w3 w4 w5 : Value, args = #[w0, w1, w2, w3, w4, w5] := by
    have hs : args.size = 6 := by simpa [Cond.value, given_1] using g1
    obtain ⟨L⟩ := args
    match L, hs with
    | [w0, w1, w2, w3, w4, w5], _ => exact ⟨w0, w1, w2, w3, w4, w5, rfl⟩
  have hw := fun d (hd : d ∈ tables_1) => atoms_spec (ws := Jvm.Cond.code x code maxLocals ret :: tables_1) hat d (List.mem_cons_of_mem _ hd)
  have hfit : Fit s := fun {y c} hc i hi => by
    obtain ⟨ha, rfl⟩ := Array.getElem?_eq_some_iff.mp hc
    have q := List.all_eq_true.mp ((Array.all_eq_true_iff_forall_mem.mp hF) _ (Array.getElem_mem ha)) i (List.mem_range.mpr hi)
    simpa [Array.getElem?_eq_getElem hi] using q
  obtain ⟨hsets, hown0⟩ := atoms_of _ (rest_1_c_eq ▸ (show rest_1_c.before _ s = true from hrest))
  have hr0 := Cond.before_iff.mp hown0
  obtain ⟨i0, ei0⟩ := is_v g3
  obtain rfl : w0 = (.int i0) := Option.some.inj ei0
  obtain ⟨i1, ei1⟩ := is_v g5
  obtain rfl : w1 = (.int i1) := Option.some.inj ei1
  obtain ⟨i2, ei2⟩ := is_v g7
  obtain rfl : w2 = (.int i2) := Option.some.inj ei2
  obtain ⟨i3, ei3⟩ := is_v g9
  obtain rfl : w3 = (.int i3) := Option.some.inj ei3
  obtain ⟨i4, ei4⟩ := is_v g11
  obtain rfl : w4 = (.int i4) := Option.some.inj ei4
  obtain ⟨i5, ei5⟩ := is_v g12
  obtain rfl : w5 = (.int i5) := Option.some.inj ei5
  obtain ⟨cs, ecs⟩ := is_v (Cond.before_iff.mp (hsets _ (List.mem_of_getElem? (i := 10) rfl)))
  have SC : Sta s s.heap "java/lang/String" "COMPACT_STRINGS" "Z" (.int cs) := Sta.start ecs (Or.inl (hsets _ (List.mem_of_getElem? (i := 9) rfl)))
  have hcs : ¬ cs = (0 : Int32) := by
    intro q
    have hq := not_v (Cond.before_iff.mp (hsets _ (List.mem_of_getElem? (i := 11) rfl)))
    rw [Cond.eq_ints ecs (Term.int_eval 0)] at hq
    simp [q] at hq
  obtain ⟨fs_, efs, hfs⟩ := isR_v (Cond.before_iff.mp (hsets _ (List.mem_of_getElem? (i := 17) rfl)))
  have SF : Sta s s.heap "jdk/internal/util/Preconditions" "SIOOBE_FORMATTER" "Ljava/util/function/BiFunction;" fs_ := Sta.start efs (Or.inl (hsets _ (List.mem_of_getElem? (i := 16) rfl)))
  have hc_s : fs_.category = 1 := by rcases ref_cases hfs with rfl | ⟨_, rfl⟩ <;> rfl
  have SD : Sta s s.heap "java/lang/StringUTF16" "$assertionsDisabled" "Z" (.int (1 : Int32)) := Sta.start (Own.eqI (Cond.before_iff.mp (hsets _ (List.mem_of_getElem? (i := 21) rfl))) (Term.int_eval _)) (Or.inl (hsets _ (List.mem_of_getElem? (i := 20) rfl)))
  have SH : Sta s s.heap "java/lang/StringUTF16" "HI_BYTE_SHIFT" "I" (.int (0 : Int32)) := Sta.start (Own.eqI (Cond.before_iff.mp (hsets _ (List.mem_of_getElem? (i := 24) rfl))) (Term.int_eval _)) (Or.inl (hsets _ (List.mem_of_getElem? (i := 23) rfl)))
  have SL : Sta s s.heap "java/lang/StringUTF16" "LO_BYTE_SHIFT" "I" (.int (8 : Int32)) := Sta.start (Own.eqI (Cond.before_iff.mp (hsets _ (List.mem_of_getElem? (i := 27) rfl))) (Term.int_eval _)) (Or.inl (hsets _ (List.mem_of_getElem? (i := 26) rfl)))
  obtain ⟨fi_, efi, ffi⟩ := static_fit hfit (hw _ (List.mem_of_getElem? (i := 105) rfl)) (ty := .object "java/util/function/BiFunction") (by decide)
  have SI : Sta s s.heap "jdk/internal/util/Preconditions" "IOOBE_FORMATTER" "Ljava/util/function/BiFunction;" fi_ := Sta.start efi (Or.inr ⟨(hw _ (List.mem_of_getElem? (i := 104) rfl)), (hw _ (List.mem_of_getElem? (i := 105) rfl))⟩)
  have hc_i : fi_.category = 1 := by rcases ref_cases (fit_R ffi rfl) with rfl | ⟨_, rfl⟩ <;> rfl
  obtain ⟨fe_, efe⟩ := exa_v (Cond.before_iff.mp (hsets _ (List.mem_of_getElem? (i := 7) rfl)))
  have SE : Sta s s.heap "java/util/ArrayList" "DEFAULTCAPACITY_EMPTY_ELEMENTDATA" "[Ljava/lang/Object;" (.ref fe_) := Sta.start efe (Or.inr ⟨(hw _ (List.mem_of_getElem? (i := 38) rfl)), (hsets _ (List.mem_of_getElem? (i := 2) rfl))⟩)
  obtain ⟨n, o, h1, h2, h3, _, L, rfl, ⟨rfl, N⟩, hq⟩ := rm0 l s _ hw tables_1 i0 i1 i2 i3 i4 i5 cs fs_ fi_ fe_ s.heap s.heap.size (Nat.le_refl _) (Old.start s) SC SD SH SL SF SI SE hcs hc_s hc_i p e ha hc hk s m _ below hf ((Spec.applies_iff_loose hf).mp happ).1 ⟨rfl, State.Warmed39.refl s, rfl⟩ trivial
  refine ⟨n, _, h1, h2, h3, hpost _ _ _ _ _ _ ⟨Cond.after_iff.mpr rfl, Cond.after_iff.mpr (eq_i res_at (Term.int_eval (1)) rfl), trivial⟩ ⟨hq.1, hq.2.1, hq.2.2.1, (hq.2.2.2.sift fun y hy => Or.inr (N y hy)).mono (by decide) (by decide)⟩⟩
theorem main_1_1 : Claimed_1_1 := comes_1 fun _ _ _ _ _ _ h hF => ⟨h.1, hF⟩
theorem main_1_2 : Claimed_1_2 := comes_1 fun _ _ _ _ _ _ h hF => ⟨h.2.1, hF⟩
end Jvm.Pilot.@@N@@
namespace Jvm.Pilot.@@N@@
open Jvm Jvm.ClassFile Sem Op Lib Jvm.Free Jvm.Stand Jvm.Pilot.@@N@@.Jvm.D
/-! MADE BY PROGRAM (witnessworld.py) out of the Statement's table words and the real class files: 37 classes; the members and pool entries that the words name. The judged class is class 1, her method 1. -/
namespace start1
open Jvm.ClassFile
def u (s : String) : CpInfo := .utf8 (stringToUtf16 s)
/-- a pool by its gaps: so many unusable entries, then the entry; so many at the end -/
def gap : Nat → List CpInfo → List CpInfo
  | 0, r => r
  | n + 1, r => .unusable :: gap n r
def poolList (es : List (Nat × CpInfo)) (last : Nat) : List CpInfo := es.foldr (fun e r => gap e.1 (e.2 :: r)) (gap last [])
def pool (es : List (Nat × CpInfo)) (last : Nat) : Array CpInfo := ⟨poolList es last⟩
def fileOf (pool : Array CpInfo) (this : Nat) (attrs : Array Attribute := #[]) (ms : Array MethodInfo := #[]) (fl : Nat := 33) (sup : Nat := 0) (ifs : Array Nat := #[]) (fds : Array FieldInfo := #[]) : ClassFile where
  minorVersion := 0
  majorVersion := 65
  constantPool := pool
  accessFlags := fl
  thisClass := this
  superClass := sup
  interfaces := ifs
  fields := fds
  methods := ms
  attributes := attrs
def plain (name : String) (sup : Option ClassId) : Class where
  name := name
  kind := .ordinary
  loader := none
  accessFlags := 33
  super := sup
  interfaces := #[]
  cf := none
  fields := #[]
  methods := #[]
  instanceTypes := #[]
  staticTypes := #[]
  resolved := #[]
  callSites := []
  init := .initialized
  statics := none
  mirror := none

def pool0 : Array CpInfo := pool [(5, u "<init>"), (0, u "()V"), (1, .class_ 10), (1, u "java/lang/Object")] 113

def k0c0 : Code := { maxStack := 0, maxLocals := 1, code := object_method_1_code, exceptionTable := #[], attributes := #[] }
def k0m0 : Method := { name := "<init>", desc := "()V", sig := { parameters := [], returnType := none }, accessFlags := 1, code := some k0c0 }
/-- java/lang/Object -/
def k0 : Class := { plain "java/lang/Object" none with
  accessFlags := 33
  interfaces := #[]
  cf := some (fileOf pool0 8 #[] #[{ accessFlags := 1, nameIndex := 5, descriptorIndex := 6, attributes := #[] }] 33 0 #[] #[])
  fields := #[]
  methods := #[k0m0]
  instanceTypes := #[]
  staticTypes := #[]
  resolved := Array.replicate 124 none
  statics := none }

def pool1 : Array CpInfo := pool [(2, .class_ 4), (1, u "java/lang/Object"), (0, u "<init>"), (0, u "()V"), (0, .integer 2147483647), (0, .class_ 9), (0, u "com/example/loomwright/loomwright/rule/XmlElement"), (0, .class_ 11), (0, u "com/example/loomwright/loomwright/config/Location"), (0, .string 13), (0, u "f"), (0, .methodref 10 15), (0, .nameAndType 5 16), (0, u "(Ljava/lang/String;I)V"), (0, .string 18), (0, u "e"), (0, .methodref 8 20), (0, .nameAndType 5 21), (0, u "(Lcom/example/loomwright/loomwright/config/Location;Ljava/lang/String;Ljava/util/Map;)V"), (0, .methodref 8 23), (0, .nameAndType 24 25), (0, u "appendText"), (0, u "([CII)V"), (0, .methodref 8 27), (0, .nameAndType 28 29), (0, u "text"), (0, u "()Ljava/lang/String;"), (0, .methodref 31 32), (0, .class_ 33), (0, .nameAndType 34 35), (0, u "java/lang/String"), (0, u "length"), (0, u "()I"), (0, .methodref 37 38), (0, .class_ 39), (0, .nameAndType 40 41), (0, u "com/example/loomwright/loomwright/rule/XmlElementAppendTextPinLaw"), (0, u "at"), (0, u "(Ljava/lang/String;I[CIII)Z"), (0, .methodref 31 43), (0, .nameAndType 44 45), (0, u "charAt"), (0, u "(I)C"), (2, u "law"), (0, u "(IIIIII)Z")] 5

def k1m0 : Method := { name := "<init>", desc := "()V", sig := { parameters := [], returnType := none }, accessFlags := 1, code := none }
def k1c1 : Code := { maxStack := 6, maxLocals := 14, code := code, exceptionTable := #[], attributes := #[] }
def k1m1 : Method := { name := "law", desc := "(IIIIII)Z", sig := { parameters := [.int, .int, .int, .int, .int, .int], returnType := some .boolean }, accessFlags := 9, code := some k1c1 }
def k1c2 : Code := { maxStack := 3, maxLocals := 7, code := method_3_code, exceptionTable := #[], attributes := #[] }
def k1m2 : Method := { name := "at", desc := "(Ljava/lang/String;I[CIII)Z", sig := { parameters := [(.object "java/lang/String"), .int, (.array .char), .int, .int, .int], returnType := some .boolean }, accessFlags := 10, code := some k1c2 }
/-- com/example/loomwright/loomwright/rule/XmlElementAppendTextPinLaw -/
def k1 : Class := { plain "com/example/loomwright/loomwright/rule/XmlElementAppendTextPinLaw" (some 0) with
  accessFlags := 49
  interfaces := #[]
  cf := some (fileOf pool1 37 #[] #[{ accessFlags := 1, nameIndex := 5, descriptorIndex := 6, attributes := #[] }, { accessFlags := 9, nameIndex := 48, descriptorIndex := 49, attributes := #[] }, { accessFlags := 10, nameIndex := 40, descriptorIndex := 41, attributes := #[] }] 49 2 #[] #[])
  fields := #[]
  methods := #[k1m0, k1m1, k1m2]
  instanceTypes := #[]
  staticTypes := #[]
  resolved := Array.replicate 55 none
  statics := none }

def pool2 : Array CpInfo := pool [(1, .methodref 2 3), (0, .class_ 4), (0, .nameAndType 5 6), (0, u "java/lang/Object"), (0, u "<init>"), (0, u "()V"), (0, .class_ 8), (0, u "java/util/ArrayList"), (0, .methodref 7 3), (0, .fieldref 11 12), (0, .class_ 13), (0, .nameAndType 14 15), (0, u "com/example/loomwright/loomwright/rule/XmlElement"), (0, u "children"), (0, u "Ljava/util/List;"), (0, .class_ 17), (0, u "java/lang/StringBuilder"), (0, .methodref 16 3), (0, .fieldref 11 20), (0, .nameAndType 21 22), (0, u "text"), (0, u "Ljava/lang/StringBuilder;"), (0, .fieldref 11 24), (0, .nameAndType 25 26), (0, u "location"), (0, u "Lcom/example/loomwright/loomwright/config/Location;"), (0, .fieldref 11 28), (0, .nameAndType 29 30), (0, u "name"), (0, u "Ljava/lang/String;"), (0, .fieldref 11 32), (0, .nameAndType 33 34), (0, u "attributes"), (0, u "Ljava/util/Map;"), (6, .methodref 16 42), (0, .nameAndType 43 44), (0, u "append"), (0, u "([CII)Ljava/lang/StringBuilder;"), (3, .methodref 16 49), (0, .nameAndType 50 51), (0, u "toString"), (0, u "()Ljava/lang/String;"), (69, u "(Lcom/example/loomwright/loomwright/config/Location;Ljava/lang/String;Ljava/util/Map;)V"), (7, u "appendText"), (0, u "([CII)V")] 30

def k2c0 : Code := { maxStack := 3, maxLocals := 4, code := prog_100_method_1_code, exceptionTable := #[], attributes := #[] }
def k2m0 : Method := { name := "<init>", desc := "(Lcom/example/loomwright/loomwright/config/Location;Ljava/lang/String;Ljava/util/Map;)V", sig := { parameters := [(.object "com/example/loomwright/loomwright/config/Location"), (.object "java/lang/String"), (.object "java/util/Map")], returnType := none }, accessFlags := 0, code := some k2c0 }
def k2c1 : Code := { maxStack := 4, maxLocals := 4, code := prog_100_method_6_code, exceptionTable := #[], attributes := #[] }
def k2m1 : Method := { name := "appendText", desc := "([CII)V", sig := { parameters := [(.array .char), .int, .int], returnType := none }, accessFlags := 0, code := some k2c1 }
def k2c2 : Code := { maxStack := 1, maxLocals := 1, code := prog_100_method_8_code, exceptionTable := #[], attributes := #[] }
def k2m2 : Method := { name := "text", desc := "()Ljava/lang/String;", sig := { parameters := [], returnType := some (.object "java/lang/String") }, accessFlags := 0, code := some k2c2 }
/-- com/example/loomwright/loomwright/rule/XmlElement -/
def k2 : Class := { plain "com/example/loomwright/loomwright/rule/XmlElement" (some 0) with
  accessFlags := 48
  interfaces := #[]
  cf := some (fileOf pool2 11 #[] #[{ accessFlags := 0, nameIndex := 5, descriptorIndex := 121, attributes := #[] }, { accessFlags := 0, nameIndex := 129, descriptorIndex := 130, attributes := #[] }, { accessFlags := 0, nameIndex := 21, descriptorIndex := 51, attributes := #[] }] 48 2 #[] #[{ accessFlags := 18, nameIndex := 25, descriptorIndex := 26, attributes := #[] }, { accessFlags := 18, nameIndex := 29, descriptorIndex := 30, attributes := #[] }, { accessFlags := 18, nameIndex := 33, descriptorIndex := 34, attributes := #[] }, { accessFlags := 18, nameIndex := 14, descriptorIndex := 15, attributes := #[] }, { accessFlags := 18, nameIndex := 21, descriptorIndex := 22, attributes := #[] }])
  fields := #[{ name := "location", type := (.object "com/example/loomwright/loomwright/config/Location"), accessFlags := 18, slot := 0, constantValue := 0 }, { name := "name", type := (.object "java/lang/String"), accessFlags := 18, slot := 1, constantValue := 0 }, { name := "attributes", type := (.object "java/util/Map"), accessFlags := 18, slot := 2, constantValue := 0 }, { name := "children", type := (.object "java/util/List"), accessFlags := 18, slot := 3, constantValue := 0 }, { name := "text", type := (.object "java/lang/StringBuilder"), accessFlags := 18, slot := 4, constantValue := 0 }]
  methods := #[k2m0, k2m1, k2m2]
  instanceTypes := #[(.object "com/example/loomwright/loomwright/config/Location"), (.object "java/lang/String"), (.object "java/util/Map"), (.object "java/util/List"), (.object "java/lang/StringBuilder")]
  staticTypes := #[]
  resolved := Array.replicate 161 none
  statics := none }

def pool3 : Array CpInfo := pool [(1, .methodref 2 3), (0, .class_ 4), (0, .nameAndType 5 6), (0, u "java/lang/Object"), (0, u "<init>"), (0, u "()V"), (0, .class_ 8), (0, u "java/lang/Record")] 13

def k3c0 : Code := { maxStack := 1, maxLocals := 1, code := jdk_30_method_1_code, exceptionTable := #[], attributes := #[] }
def k3m0 : Method := { name := "<init>", desc := "()V", sig := { parameters := [], returnType := none }, accessFlags := 4, code := some k3c0 }
/-- java/lang/Record -/
def k3 : Class := { plain "java/lang/Record" (some 0) with
  accessFlags := 1057
  interfaces := #[]
  cf := some (fileOf pool3 7 #[] #[{ accessFlags := 4, nameIndex := 5, descriptorIndex := 6, attributes := #[] }] 1057 2 #[] #[])
  fields := #[]
  methods := #[k3m0]
  instanceTypes := #[]
  staticTypes := #[]
  resolved := Array.replicate 22 none
  statics := none }

def pool4 : Array CpInfo := pool [(1, .methodref 2 3), (0, .class_ 4), (0, .nameAndType 5 6), (0, u "java/lang/Record"), (0, u "<init>"), (0, u "()V"), (0, .fieldref 8 9), (0, .class_ 10), (0, .nameAndType 11 12), (0, u "com/example/loomwright/loomwright/config/Location"), (0, u "file"), (0, u "Ljava/lang/String;"), (0, .fieldref 8 14), (0, .nameAndType 15 16), (0, u "line"), (0, u "I"), (30, u "(Ljava/lang/String;I)V")] 41

def k4c0 : Code := { maxStack := 2, maxLocals := 3, code := prog_60_method_1_code, exceptionTable := #[], attributes := #[] }
def k4m0 : Method := { name := "<init>", desc := "(Ljava/lang/String;I)V", sig := { parameters := [(.object "java/lang/String"), .int], returnType := none }, accessFlags := 1, code := some k4c0 }
/-- com/example/loomwright/loomwright/config/Location -/
def k4 : Class := { plain "com/example/loomwright/loomwright/config/Location" (some 3) with
  accessFlags := 49
  interfaces := #[]
  cf := some (fileOf pool4 8 #[] #[{ accessFlags := 1, nameIndex := 5, descriptorIndex := 47, attributes := #[] }] 49 2 #[] #[{ accessFlags := 18, nameIndex := 11, descriptorIndex := 12, attributes := #[] }, { accessFlags := 18, nameIndex := 15, descriptorIndex := 16, attributes := #[] }])
  fields := #[{ name := "file", type := (.object "java/lang/String"), accessFlags := 18, slot := 0, constantValue := 0 }, { name := "line", type := .int, accessFlags := 18, slot := 1, constantValue := 0 }]
  methods := #[k4m0]
  instanceTypes := #[(.object "java/lang/String"), .int]
  staticTypes := #[]
  resolved := Array.replicate 89 none
  statics := none }

def pool5 : Array CpInfo := pool [(1, .class_ 2), (0, u "java/io/Serializable"), (0, .class_ 4), (0, u "java/lang/Object")] 2

/-- java/io/Serializable -/
def k5 : Class := { plain "java/io/Serializable" (some 0) with
  accessFlags := 1537
  interfaces := #[]
  cf := some (fileOf pool5 1 #[] #[] 1537 3 #[] #[])
  fields := #[]
  methods := #[]
  instanceTypes := #[]
  staticTypes := #[]
  resolved := Array.replicate 7 none
  statics := none }

def pool6 : Array CpInfo := pool [(1, .class_ 2), (0, u "java/lang/Comparable"), (0, .class_ 4), (0, u "java/lang/Object")] 7

/-- java/lang/Comparable -/
def k6 : Class := { plain "java/lang/Comparable" (some 0) with
  accessFlags := 1537
  interfaces := #[]
  cf := some (fileOf pool6 1 #[] #[] 1537 3 #[] #[])
  fields := #[]
  methods := #[]
  instanceTypes := #[]
  staticTypes := #[]
  resolved := Array.replicate 12 none
  statics := none }

def pool7 : Array CpInfo := pool [(2, .class_ 4), (1, u "java/lang/CharSequence"), (42, .class_ 48), (0, u "java/lang/CharSequence$1CodePointIterator"), (10, .class_ 60), (0, u "java/lang/CharSequence$1CharIterator"), (5, .class_ 67), (0, u "java/lang/Object")] 63

/-- java/lang/CharSequence -/
def k7 : Class := { plain "java/lang/CharSequence" (some 0) with
  accessFlags := 1537
  interfaces := #[]
  cf := some (fileOf pool7 2 #[.nestMembers #[47, 59]] #[] 1537 66 #[] #[])
  fields := #[]
  methods := #[]
  instanceTypes := #[]
  staticTypes := #[]
  resolved := Array.replicate 131 none
  statics := none }

def pool8 : Array CpInfo := pool [(1, .class_ 2), (0, u "java/lang/constant/Constable"), (0, .class_ 4), (0, u "java/lang/Object")] 6

/-- java/lang/constant/Constable -/
def k8 : Class := { plain "java/lang/constant/Constable" (some 0) with
  accessFlags := 1537
  interfaces := #[]
  cf := some (fileOf pool8 1 #[] #[] 1537 3 #[] #[])
  fields := #[]
  methods := #[]
  instanceTypes := #[]
  staticTypes := #[]
  resolved := Array.replicate 11 none
  statics := none }

def pool9 : Array CpInfo := pool [(1, .class_ 2), (0, u "java/lang/constant/ConstantDesc"), (0, .class_ 4), (0, u "java/lang/Object")] 32

/-- java/lang/constant/ConstantDesc -/
def k9 : Class := { plain "java/lang/constant/ConstantDesc" (some 0) with
  accessFlags := 1537
  interfaces := #[]
  cf := some (fileOf pool9 1 #[] #[] 1537 3 #[] #[])
  fields := #[]
  methods := #[]
  instanceTypes := #[]
  staticTypes := #[]
  resolved := Array.replicate 37 none
  statics := none }

def pool10 : Array CpInfo := pool [(1, .methodref 2 3), (0, .class_ 4), (0, .nameAndType 5 6), (0, u "java/lang/Object"), (0, u "<init>"), (0, u "()V"), (2, .fieldref 10 11), (0, .class_ 12), (0, .nameAndType 13 14), (0, u "java/lang/String"), (0, u "value"), (0, u "[B"), (0, .fieldref 10 16), (0, .nameAndType 17 18), (0, u "coder"), (0, u "B"), (2, u "hash"), (0, u "I"), (2, u "hashIsZero"), (0, u "Z"), (9, u "checkBoundsOffCount"), (0, u "(III)I"), (0, .fieldref 10 39), (0, .nameAndType 40 26), (0, u "COMPACT_STRINGS"), (1, .class_ 44), (1, u "java/lang/StringUTF16"), (9, .methodref 55 56), (0, .class_ 57), (0, .nameAndType 58 59), (0, u "java/util/Arrays"), (0, u "copyOfRange"), (0, u "([BII)[B"), (47, .class_ 109), (1, u "java/lang/StringLatin1"), (32, u "()Z"), (191, u "()I"), (0, .methodref 10 336), (0, .nameAndType 17 337), (0, u "()B"), (2, u "()[B"), (22, u "([BI)C"), (27, u "(II)V"), (35, u "(I)C"), (61, .methodref 10 490), (0, .nameAndType 5 491), (0, u "(Ljava/lang/AbstractStringBuilder;Ljava/lang/Void;)V"), (0, .methodref 10 493), (0, .nameAndType 494 142), (0, u "isLatin1"), (0, .methodref 107 496), (0, .nameAndType 497 363), (0, u "charAt"), (0, .methodref 42 496), (2, u "checkIndex"), (4, .nameAndType 507 334), (0, u "length"), (5, u "checkFromToIndex"), (9, u "checkBoundsBeginEnd"), (0, u "(III)V"), (24, .methodref 550 506), (0, .class_ 551), (0, u "java/lang/AbstractStringBuilder"), (0, .methodref 550 553), (0, .nameAndType 554 340), (0, u "getValue"), (20, .class_ 576), (0, u "java/lang/CharSequence"), (22, u "CASE_INSENSITIVE_ORDER"), (0, u "Ljava/util/Comparator;"), (446, .methodref 550 493), (0, .fieldref 550 1049), (0, .nameAndType 1050 26), (0, u "maybeLatin1"), (2, .fieldref 1054 1055), (0, .class_ 1056), (0, .nameAndType 1057 1058), (0, u "jdk/internal/util/Preconditions"), (0, u "SIOOBE_FORMATTER"), (0, u "Ljava/util/function/BiFunction;"), (0, .methodref 1054 1060), (0, .nameAndType 501 1061), (0, u "(IILjava/util/function/BiFunction;)I"), (0, .methodref 1054 1063), (0, .nameAndType 513 1064), (0, u "(IIILjava/util/function/BiFunction;)I"), (0, .methodref 1054 1066), (0, .nameAndType 1067 1064), (0, u "checkFromIndexSize"), (33, u "serialPersistentFields"), (0, u "[Ljava/io/ObjectStreamField;"), (0, .class_ 1104), (0, u "java/lang/String$CaseInsensitiveComparator"), (1, .class_ 1107), (0, u "java/io/Serializable"), (0, .class_ 1109), (0, u "java/lang/Comparable"), (0, .class_ 1111), (0, u "java/lang/constant/Constable"), (0, .class_ 1113), (0, u "java/lang/constant/ConstantDesc"), (2, u "serialVersionUID"), (0, u "J"), (3, u "REPL"), (0, u "C"), (2, u "LATIN1"), (1, u "UTF16"), (105, u "(Ljava/lang/StringBuilder;)V")] 217

def k10m0 : Method := { name := "<init>", desc := "()V", sig := { parameters := [], returnType := none }, accessFlags := 1, code := none }
def k10c1 : Code := { maxStack := 3, maxLocals := 2, code := jdk_42_method_53_code, exceptionTable := #[], attributes := #[] }
def k10m1 : Method := { name := "<init>", desc := "(Ljava/lang/StringBuilder;)V", sig := { parameters := [(.object "java/lang/StringBuilder")], returnType := none }, accessFlags := 1, code := some k10c1 }
def k10c2 : Code := { maxStack := 2, maxLocals := 1, code := jdk_42_method_54_code, exceptionTable := #[], attributes := #[] }
def k10m2 : Method := { name := "length", desc := "()I", sig := { parameters := [], returnType := some .int }, accessFlags := 1, code := some k10c2 }
def k10c3 : Code := { maxStack := 2, maxLocals := 2, code := jdk_42_method_56_code, exceptionTable := #[], attributes := #[] }
def k10m3 : Method := { name := "charAt", desc := "(I)C", sig := { parameters := [.int], returnType := some .char }, accessFlags := 1, code := some k10c3 }
def k10c4 : Code := { maxStack := 5, maxLocals := 5, code := jdk_42_method_150_code, exceptionTable := #[], attributes := #[] }
def k10m4 : Method := { name := "<init>", desc := "(Ljava/lang/AbstractStringBuilder;Ljava/lang/Void;)V", sig := { parameters := [(.object "java/lang/AbstractStringBuilder"), (.object "java/lang/Void")], returnType := none }, accessFlags := 0, code := some k10c4 }
def k10c5 : Code := { maxStack := 1, maxLocals := 1, code := jdk_42_method_152_code, exceptionTable := #[], attributes := #[] }
def k10m5 : Method := { name := "coder", desc := "()B", sig := { parameters := [], returnType := some .byte }, accessFlags := 0, code := some k10c5 }
def k10c6 : Code := { maxStack := 1, maxLocals := 1, code := jdk_42_method_154_code, exceptionTable := #[], attributes := #[] }
def k10m6 : Method := { name := "isLatin1", desc := "()Z", sig := { parameters := [], returnType := some .boolean }, accessFlags := 0, code := some k10c6 }
def k10c7 : Code := { maxStack := 3, maxLocals := 2, code := jdk_42_method_155_code, exceptionTable := #[], attributes := #[] }
def k10m7 : Method := { name := "checkIndex", desc := "(II)V", sig := { parameters := [.int, .int], returnType := none }, accessFlags := 8, code := some k10c7 }
def k10c8 : Code := { maxStack := 4, maxLocals := 3, code := jdk_42_method_157_code, exceptionTable := #[], attributes := #[] }
def k10m8 : Method := { name := "checkBoundsOffCount", desc := "(III)I", sig := { parameters := [.int, .int, .int], returnType := some .int }, accessFlags := 8, code := some k10c8 }
def k10c9 : Code := { maxStack := 4, maxLocals := 3, code := jdk_42_method_158_code, exceptionTable := #[], attributes := #[] }
def k10m9 : Method := { name := "checkBoundsBeginEnd", desc := "(III)V", sig := { parameters := [.int, .int, .int], returnType := none }, accessFlags := 8, code := some k10c9 }
/-- java/lang/String -/
def k10 : Class := { plain "java/lang/String" (some 0) with
  accessFlags := 49
  interfaces := #[5, 6, 7, 8, 9]
  cf := some (fileOf pool10 10 #[.nestMembers #[1103]] #[{ accessFlags := 1, nameIndex := 5, descriptorIndex := 6, attributes := #[] }, { accessFlags := 1, nameIndex := 5, descriptorIndex := 1233, attributes := #[] }, { accessFlags := 1, nameIndex := 507, descriptorIndex := 334, attributes := #[] }, { accessFlags := 1, nameIndex := 497, descriptorIndex := 427, attributes := #[] }, { accessFlags := 0, nameIndex := 5, descriptorIndex := 491, attributes := #[] }, { accessFlags := 0, nameIndex := 17, descriptorIndex := 337, attributes := #[] }, { accessFlags := 0, nameIndex := 494, descriptorIndex := 142, attributes := #[] }, { accessFlags := 8, nameIndex := 501, descriptorIndex := 391, attributes := #[] }, { accessFlags := 8, nameIndex := 36, descriptorIndex := 37, attributes := #[] }, { accessFlags := 8, nameIndex := 523, descriptorIndex := 524, attributes := #[] }] 49 2 #[1106, 1108, 575, 1110, 1112] #[{ accessFlags := 18, nameIndex := 13, descriptorIndex := 14, attributes := #[] }, { accessFlags := 18, nameIndex := 17, descriptorIndex := 18, attributes := #[] }, { accessFlags := 2, nameIndex := 21, descriptorIndex := 22, attributes := #[] }, { accessFlags := 2, nameIndex := 25, descriptorIndex := 26, attributes := #[] }, { accessFlags := 26, nameIndex := 1116, descriptorIndex := 1117, attributes := #[] }, { accessFlags := 24, nameIndex := 40, descriptorIndex := 26, attributes := #[] }, { accessFlags := 26, nameIndex := 1101, descriptorIndex := 1102, attributes := #[] }, { accessFlags := 26, nameIndex := 1121, descriptorIndex := 1122, attributes := #[] }, { accessFlags := 25, nameIndex := 599, descriptorIndex := 600, attributes := #[] }, { accessFlags := 24, nameIndex := 1125, descriptorIndex := 18, attributes := #[] }, { accessFlags := 24, nameIndex := 1127, descriptorIndex := 18, attributes := #[] }])
  fields := #[{ name := "value", type := (.array .byte), accessFlags := 18, slot := 0, constantValue := 0 }, { name := "coder", type := .byte, accessFlags := 18, slot := 1, constantValue := 0 }, { name := "hash", type := .int, accessFlags := 2, slot := 2, constantValue := 0 }, { name := "hashIsZero", type := .boolean, accessFlags := 2, slot := 3, constantValue := 0 }, { name := "serialVersionUID", type := .long, accessFlags := 26, slot := 0, constantValue := 0 }, { name := "COMPACT_STRINGS", type := .boolean, accessFlags := 24, slot := 1, constantValue := 0 }, { name := "serialPersistentFields", type := (.array (.object "java/io/ObjectStreamField")), accessFlags := 26, slot := 2, constantValue := 0 }, { name := "REPL", type := .char, accessFlags := 26, slot := 3, constantValue := 0 }, { name := "CASE_INSENSITIVE_ORDER", type := (.object "java/util/Comparator"), accessFlags := 25, slot := 4, constantValue := 0 }, { name := "LATIN1", type := .byte, accessFlags := 24, slot := 5, constantValue := 0 }, { name := "UTF16", type := .byte, accessFlags := 24, slot := 6, constantValue := 0 }]
  methods := #[k10m0, k10m1, k10m2, k10m3, k10m4, k10m5, k10m6, k10m7, k10m8, k10m9]
  instanceTypes := #[(.array .byte), .byte, .int, .boolean]
  staticTypes := #[.long, .boolean, (.array (.object "java/io/ObjectStreamField")), .char, (.object "java/util/Comparator"), .byte, .byte]
  resolved := Array.replicate 1451 none
  statics := some 0 }

def pool11 : Array CpInfo := pool [(8, .class_ 10), (1, u "java/lang/Iterable"), (24, .class_ 36), (0, u "java/lang/Object")] 25

/-- java/lang/Iterable -/
def k11 : Class := { plain "java/lang/Iterable" (some 0) with
  accessFlags := 1537
  interfaces := #[]
  cf := some (fileOf pool11 8 #[] #[] 1537 35 #[] #[])
  fields := #[]
  methods := #[]
  instanceTypes := #[]
  staticTypes := #[]
  resolved := Array.replicate 62 none
  statics := none }

def pool12 : Array CpInfo := pool [(10, .class_ 12), (1, u "java/util/Collection"), (47, .class_ 61), (0, u "java/lang/Object"), (0, .class_ 63), (0, u "java/lang/Iterable")] 51

/-- java/util/Collection -/
def k12 : Class := { plain "java/util/Collection" (some 0) with
  accessFlags := 1537
  interfaces := #[11]
  cf := some (fileOf pool12 10 #[] #[] 1537 60 #[62] #[])
  fields := #[]
  methods := #[]
  instanceTypes := #[]
  staticTypes := #[]
  resolved := Array.replicate 115 none
  statics := none }

def pool13 : Array CpInfo := pool [(1, .methodref 2 3), (0, .class_ 4), (0, .nameAndType 5 6), (0, u "java/lang/Object"), (0, u "<init>"), (0, u "()V"), (1, .class_ 10), (1, u "java/util/AbstractCollection"), (66, .class_ 78), (0, u "java/util/Collection")] 81

def k13c0 : Code := { maxStack := 1, maxLocals := 1, code := jdk_22_method_1_code, exceptionTable := #[], attributes := #[] }
def k13m0 : Method := { name := "<init>", desc := "()V", sig := { parameters := [], returnType := none }, accessFlags := 4, code := some k13c0 }
/-- java/util/AbstractCollection -/
def k13 : Class := { plain "java/util/AbstractCollection" (some 0) with
  accessFlags := 1057
  interfaces := #[12]
  cf := some (fileOf pool13 8 #[] #[{ accessFlags := 4, nameIndex := 5, descriptorIndex := 6, attributes := #[] }] 1057 2 #[77] #[])
  fields := #[]
  methods := #[k13m0]
  instanceTypes := #[]
  staticTypes := #[]
  resolved := Array.replicate 160 none
  statics := none }

def pool14 : Array CpInfo := pool [(8, .class_ 10), (1, u "java/util/SequencedCollection"), (15, .class_ 27), (0, u "java/lang/Object"), (0, .class_ 29), (0, u "java/util/Collection")] 27

/-- java/util/SequencedCollection -/
def k14 : Class := { plain "java/util/SequencedCollection" (some 0) with
  accessFlags := 1537
  interfaces := #[12]
  cf := some (fileOf pool14 8 #[] #[] 1537 26 #[28] #[])
  fields := #[]
  methods := #[]
  instanceTypes := #[]
  staticTypes := #[]
  resolved := Array.replicate 57 none
  statics := none }

def pool15 : Array CpInfo := pool [(8, .class_ 10), (1, u "java/util/List"), (92, .class_ 104), (0, u "java/lang/Object"), (15, .class_ 121), (0, u "java/util/SequencedCollection")] 129

/-- java/util/List -/
def k15 : Class := { plain "java/util/List" (some 0) with
  accessFlags := 1537
  interfaces := #[14]
  cf := some (fileOf pool15 8 #[] #[] 1537 103 #[120] #[])
  fields := #[]
  methods := #[]
  instanceTypes := #[]
  staticTypes := #[]
  resolved := Array.replicate 251 none
  statics := none }

def pool16 : Array CpInfo := pool [(1, .methodref 2 3), (0, .class_ 4), (0, .nameAndType 5 6), (0, u "java/util/AbstractCollection"), (0, u "<init>"), (0, u "()V"), (0, .fieldref 8 9), (0, .class_ 10), (0, .nameAndType 11 12), (0, u "java/util/AbstractList"), (0, u "modCount"), (0, u "I"), (64, .class_ 78), (0, u "java/util/AbstractList$Itr"), (3, .class_ 83), (0, u "java/util/AbstractList$ListItr"), (9, .class_ 94), (0, u "java/util/AbstractList$RandomAccessSubList"), (3, .class_ 99), (0, u "java/util/AbstractList$SubList"), (33, .class_ 134), (0, u "java/util/List"), (73, .class_ 209), (0, u "java/util/AbstractList$SubList$1"), (0, .class_ 211), (0, u "java/util/AbstractList$RandomAccessSpliterator")] 6

def k16c0 : Code := { maxStack := 2, maxLocals := 1, code := jdk_39_method_1_code, exceptionTable := #[], attributes := #[] }
def k16m0 : Method := { name := "<init>", desc := "()V", sig := { parameters := [], returnType := none }, accessFlags := 4, code := some k16c0 }
/-- java/util/AbstractList -/
def k16 : Class := { plain "java/util/AbstractList" (some 13) with
  accessFlags := 1057
  interfaces := #[15]
  cf := some (fileOf pool16 8 #[.nestMembers #[93, 98, 208, 210, 82, 77]] #[{ accessFlags := 4, nameIndex := 5, descriptorIndex := 6, attributes := #[] }] 1057 2 #[133] #[{ accessFlags := 132, nameIndex := 11, descriptorIndex := 12, attributes := #[] }])
  fields := #[{ name := "modCount", type := .int, accessFlags := 132, slot := 0, constantValue := 0 }]
  methods := #[k16m0]
  instanceTypes := #[.int]
  staticTypes := #[]
  resolved := Array.replicate 218 none
  statics := none }

def pool17 : Array CpInfo := pool [(1, .class_ 2), (0, u "java/util/RandomAccess"), (0, .class_ 4), (0, u "java/lang/Object")] 2

/-- java/util/RandomAccess -/
def k17 : Class := { plain "java/util/RandomAccess" (some 0) with
  accessFlags := 1537
  interfaces := #[]
  cf := some (fileOf pool17 1 #[] #[] 1537 3 #[] #[])
  fields := #[]
  methods := #[]
  instanceTypes := #[]
  staticTypes := #[]
  resolved := Array.replicate 7 none
  statics := none }

def pool18 : Array CpInfo := pool [(1, .class_ 2), (0, u "java/lang/Cloneable"), (0, .class_ 4), (0, u "java/lang/Object")] 2

/-- java/lang/Cloneable -/
def k18 : Class := { plain "java/lang/Cloneable" (some 0) with
  accessFlags := 1537
  interfaces := #[]
  cf := some (fileOf pool18 1 #[] #[] 1537 3 #[] #[])
  fields := #[]
  methods := #[]
  instanceTypes := #[]
  staticTypes := #[]
  resolved := Array.replicate 7 none
  statics := none }

def pool19 : Array CpInfo := pool [(1, .methodref 2 3), (0, .class_ 4), (0, .nameAndType 5 6), (0, u "java/util/AbstractList"), (0, u "<init>"), (0, u "()V"), (2, .fieldref 10 11), (0, .class_ 12), (0, .nameAndType 13 14), (0, u "java/util/ArrayList"), (0, u "elementData"), (0, u "[Ljava/lang/Object;"), (2, u "EMPTY_ELEMENTDATA"), (21, .fieldref 10 40), (0, .nameAndType 41 14), (0, u "DEFAULTCAPACITY_EMPTY_ELEMENTDATA"), (8, u "size"), (0, u "I"), (96, .class_ 149), (0, u "java/util/List"), (112, .class_ 263), (0, u "java/util/ArrayList$ListItr"), (3, .class_ 268), (0, u "java/util/ArrayList$Itr"), (7, .class_ 277), (0, u "java/util/ArrayList$SubList"), (12, .class_ 291), (0, u "java/util/ArrayList$ArrayListSpliterator"), (37, .class_ 330), (0, u "java/util/RandomAccess"), (0, .class_ 332), (0, u "java/lang/Cloneable"), (0, .class_ 334), (0, u "java/io/Serializable"), (0, u "serialVersionUID"), (0, u "J"), (3, u "DEFAULT_CAPACITY"), (159, .class_ 501), (0, u "java/util/ArrayList$SubList$2"), (0, .class_ 503), (0, u "java/util/ArrayList$SubList$1")] 5

def k19c0 : Code := { maxStack := 2, maxLocals := 1, code := jdk_38_method_2_code, exceptionTable := #[], attributes := #[] }
def k19m0 : Method := { name := "<init>", desc := "()V", sig := { parameters := [], returnType := none }, accessFlags := 1, code := some k19c0 }
/-- java/util/ArrayList -/
def k19 : Class := { plain "java/util/ArrayList" (some 16) with
  accessFlags := 33
  interfaces := #[15, 17, 18, 5]
  cf := some (fileOf pool19 10 #[.nestMembers #[290, 276, 500, 502, 262, 267]] #[{ accessFlags := 1, nameIndex := 5, descriptorIndex := 6, attributes := #[] }] 33 2 #[148, 329, 331, 333] #[{ accessFlags := 26, nameIndex := 335, descriptorIndex := 336, attributes := #[] }, { accessFlags := 26, nameIndex := 340, descriptorIndex := 51, attributes := #[] }, { accessFlags := 26, nameIndex := 17, descriptorIndex := 14, attributes := #[] }, { accessFlags := 26, nameIndex := 41, descriptorIndex := 14, attributes := #[] }, { accessFlags := 128, nameIndex := 13, descriptorIndex := 14, attributes := #[] }, { accessFlags := 2, nameIndex := 50, descriptorIndex := 51, attributes := #[] }])
  fields := #[{ name := "serialVersionUID", type := .long, accessFlags := 26, slot := 0, constantValue := 0 }, { name := "DEFAULT_CAPACITY", type := .int, accessFlags := 26, slot := 1, constantValue := 0 }, { name := "EMPTY_ELEMENTDATA", type := (.array (.object "java/lang/Object")), accessFlags := 26, slot := 2, constantValue := 0 }, { name := "DEFAULTCAPACITY_EMPTY_ELEMENTDATA", type := (.array (.object "java/lang/Object")), accessFlags := 26, slot := 3, constantValue := 0 }, { name := "elementData", type := (.array (.object "java/lang/Object")), accessFlags := 128, slot := 1, constantValue := 0 }, { name := "size", type := .int, accessFlags := 2, slot := 2, constantValue := 0 }]
  methods := #[k19m0]
  instanceTypes := #[.int, (.array (.object "java/lang/Object")), .int]
  staticTypes := #[.long, .int, (.array (.object "java/lang/Object")), (.array (.object "java/lang/Object"))]
  resolved := Array.replicate 509 none
  statics := some 1 }

def pool20 : Array CpInfo := pool [(1, .class_ 2), (0, u "java/lang/Appendable"), (0, .class_ 4), (0, u "java/lang/Object")] 9

/-- java/lang/Appendable -/
def k20 : Class := { plain "java/lang/Appendable" (some 0) with
  accessFlags := 1537
  interfaces := #[]
  cf := some (fileOf pool20 1 #[] #[] 1537 3 #[] #[])
  fields := #[]
  methods := #[]
  instanceTypes := #[]
  staticTypes := #[]
  resolved := Array.replicate 14 none
  statics := none }

def pool21 : Array CpInfo := pool [(1, .class_ 2), (0, u "java/lang/String"), (0, .methodref 4 5), (0, .class_ 6), (0, .nameAndType 7 8), (0, u "java/lang/Object"), (0, u "<init>"), (0, u "()V"), (1, .class_ 12), (1, u "java/lang/AbstractStringBuilder"), (0, u "EMPTYVALUE"), (0, u "[B"), (0, .fieldref 10 16), (0, .nameAndType 17 14), (0, u "value"), (0, .fieldref 1 19), (0, .nameAndType 20 21), (0, u "COMPACT_STRINGS"), (0, u "Z"), (0, .fieldref 10 23), (0, .nameAndType 24 25), (0, u "coder"), (0, u "B"), (0, .methodref 27 28), (0, .class_ 29), (0, .nameAndType 30 31), (0, u "java/lang/StringUTF16"), (0, u "newBytesFor"), (0, u "(I)[B"), (2, u "length"), (0, u "()I"), (9, u "append"), (2, .class_ 49), (0, u "java/lang/CharSequence"), (25, u "maybeLatin1"), (3, .fieldref 10 80), (0, .nameAndType 81 82), (0, u "count"), (0, u "I"), (0, .methodref 10 84), (0, .nameAndType 85 86), (0, u "isLatin1"), (0, u "()Z"), (1, .class_ 90), (1, u "java/lang/StringLatin1"), (9, .methodref 10 101), (0, .nameAndType 102 103), (0, u "ensureCapacityInternal"), (0, u "(I)V"), (21, .methodref 88 126), (0, .nameAndType 127 128), (0, u "inflate"), (0, u "([BI[BII)V"), (32, .methodref 162 163), (0, .class_ 164), (0, .nameAndType 165 166), (0, u "jdk/internal/util/Preconditions"), (0, u "checkFromToIndex"), (0, u "(IIILjava/util/function/BiFunction;)I"), (15, u "Ljava/util/function/BiFunction;"), (0, .fieldref 162 184), (0, .nameAndType 185 182), (0, u "IOOBE_FORMATTER"), (5, .methodref 88 192), (0, .nameAndType 193 194), (0, u "canEncode"), (0, u "(C)Z"), (0, .methodref 10 196), (0, .nameAndType 127 8), (37, u "appendChars"), (4, .methodref 10 240), (0, .nameAndType 234 241), (0, u "([CII)V"), (144, .methodref 27 387), (0, .nameAndType 388 389), (0, u "putCharsSB"), (0, u "([BI[CII)V"), (13, u "()[B"), (40, .class_ 445), (0, u "java/lang/Appendable"), (60, u "([CII)Ljava/lang/AbstractStringBuilder;"), (45, u "getValue")] 56

def k21m0 : Method := { name := "<init>", desc := "()V", sig := { parameters := [], returnType := none }, accessFlags := 0, code := none }
def k21c1 : Code := { maxStack := 2, maxLocals := 2, code := jdk_68_method_2_code, exceptionTable := #[], attributes := #[] }
def k21m1 : Method := { name := "<init>", desc := "(I)V", sig := { parameters := [.int], returnType := none }, accessFlags := 0, code := some k21c1 }
def k21c2 : Code := { maxStack := 1, maxLocals := 1, code := jdk_68_method_6_code, exceptionTable := #[], attributes := #[] }
def k21m2 : Method := { name := "length", desc := "()I", sig := { parameters := [], returnType := some .int }, accessFlags := 1, code := some k21c2 }
def k21c3 : Code := { maxStack := 4, maxLocals := 3, code := jdk_68_method_9_code, exceptionTable := #[], attributes := #[] }
def k21m3 : Method := { name := "ensureCapacityInternal", desc := "(I)V", sig := { parameters := [.int], returnType := none }, accessFlags := 2, code := some k21c3 }
def k21c4 : Code := { maxStack := 5, maxLocals := 2, code := jdk_68_method_11_code, exceptionTable := #[], attributes := #[] }
def k21m4 : Method := { name := "inflate", desc := "()V", sig := { parameters := [], returnType := none }, accessFlags := 2, code := some k21c4 }
def k21c5 : Code := { maxStack := 4, maxLocals := 5, code := jdk_68_method_29_code, exceptionTable := #[], attributes := #[] }
def k21m5 : Method := { name := "append", desc := "([CII)Ljava/lang/AbstractStringBuilder;", sig := { parameters := [(.array .char), .int, .int], returnType := some (.object "java/lang/AbstractStringBuilder") }, accessFlags := 1, code := some k21c5 }
def k21c6 : Code := { maxStack := 1, maxLocals := 1, code := jdk_68_method_64_code, exceptionTable := #[], attributes := #[] }
def k21m6 : Method := { name := "getValue", desc := "()[B", sig := { parameters := [], returnType := some (.array .byte) }, accessFlags := 16, code := some k21c6 }
def k21c7 : Code := { maxStack := 1, maxLocals := 1, code := jdk_68_method_68_code, exceptionTable := #[], attributes := #[] }
def k21m7 : Method := { name := "isLatin1", desc := "()Z", sig := { parameters := [], returnType := some .boolean }, accessFlags := 16, code := some k21c7 }
def k21c8 : Code := { maxStack := 5, maxLocals := 9, code := jdk_68_method_74_code, exceptionTable := #[], attributes := #[] }
def k21m8 : Method := { name := "appendChars", desc := "([CII)V", sig := { parameters := [(.array .char), .int, .int], returnType := none }, accessFlags := 18, code := some k21c8 }
/-- java/lang/AbstractStringBuilder -/
def k21 : Class := { plain "java/lang/AbstractStringBuilder" (some 0) with
  accessFlags := 1056
  interfaces := #[20, 7]
  cf := some (fileOf pool21 10 #[] #[{ accessFlags := 0, nameIndex := 7, descriptorIndex := 8, attributes := #[] }, { accessFlags := 0, nameIndex := 7, descriptorIndex := 103, attributes := #[] }, { accessFlags := 1, nameIndex := 34, descriptorIndex := 35, attributes := #[] }, { accessFlags := 2, nameIndex := 102, descriptorIndex := 103, attributes := #[] }, { accessFlags := 2, nameIndex := 127, descriptorIndex := 8, attributes := #[] }, { accessFlags := 1, nameIndex := 45, descriptorIndex := 506, attributes := #[] }, { accessFlags := 16, nameIndex := 552, descriptorIndex := 403, attributes := #[] }, { accessFlags := 16, nameIndex := 85, descriptorIndex := 86, attributes := #[] }, { accessFlags := 18, nameIndex := 234, descriptorIndex := 241, attributes := #[] }] 1056 4 #[444, 48] #[{ accessFlags := 0, nameIndex := 17, descriptorIndex := 14, attributes := #[] }, { accessFlags := 0, nameIndex := 24, descriptorIndex := 25, attributes := #[] }, { accessFlags := 0, nameIndex := 75, descriptorIndex := 21, attributes := #[] }, { accessFlags := 0, nameIndex := 81, descriptorIndex := 82, attributes := #[] }, { accessFlags := 26, nameIndex := 13, descriptorIndex := 14, attributes := #[] }])
  fields := #[{ name := "value", type := (.array .byte), accessFlags := 0, slot := 0, constantValue := 0 }, { name := "coder", type := .byte, accessFlags := 0, slot := 1, constantValue := 0 }, { name := "maybeLatin1", type := .boolean, accessFlags := 0, slot := 2, constantValue := 0 }, { name := "count", type := .int, accessFlags := 0, slot := 3, constantValue := 0 }, { name := "EMPTYVALUE", type := (.array .byte), accessFlags := 26, slot := 0, constantValue := 0 }]
  methods := #[k21m0, k21m1, k21m2, k21m3, k21m4, k21m5, k21m6, k21m7, k21m8]
  instanceTypes := #[(.array .byte), .byte, .boolean, .int]
  staticTypes := #[(.array .byte)]
  resolved := Array.replicate 609 none
  statics := none }

def pool22 : Array CpInfo := pool [(1, .methodref 2 3), (0, .class_ 4), (0, .nameAndType 5 6), (0, u "java/lang/AbstractStringBuilder"), (0, u "<init>"), (0, u "(I)V"), (11, .class_ 20), (1, u "java/lang/String"), (3, .class_ 26), (1, u "java/lang/StringBuilder"), (0, u "append"), (16, .methodref 2 45), (0, .nameAndType 27 46), (0, u "([CII)Ljava/lang/AbstractStringBuilder;"), (90, .methodref 18 138), (0, .nameAndType 5 139), (0, u "(Ljava/lang/StringBuilder;)V"), (5, u "()V"), (10, u "()I"), (135, u "([CII)Ljava/lang/StringBuilder;"), (50, .methodref 2 344), (0, .nameAndType 345 156), (0, u "length"), (3, .class_ 350), (0, u "java/lang/Appendable"), (0, .class_ 352), (0, u "java/io/Serializable"), (0, .class_ 354), (0, u "java/lang/Comparable"), (0, .class_ 356), (0, u "java/lang/CharSequence"), (0, u "serialVersionUID"), (0, u "J"), (40, u "toString"), (0, u "()Ljava/lang/String;")] 21

def k22c0 : Code := { maxStack := 2, maxLocals := 1, code := jdk_67_method_1_code, exceptionTable := #[], attributes := #[] }
def k22m0 : Method := { name := "<init>", desc := "()V", sig := { parameters := [], returnType := none }, accessFlags := 1, code := some k22c0 }
def k22c1 : Code := { maxStack := 4, maxLocals := 4, code := jdk_67_method_12_code, exceptionTable := #[], attributes := #[] }
def k22m1 : Method := { name := "append", desc := "([CII)Ljava/lang/StringBuilder;", sig := { parameters := [(.array .char), .int, .int], returnType := some (.object "java/lang/StringBuilder") }, accessFlags := 1, code := some k22c1 }
def k22c2 : Code := { maxStack := 3, maxLocals := 1, code := jdk_67_method_42_code, exceptionTable := #[], attributes := #[] }
def k22m2 : Method := { name := "toString", desc := "()Ljava/lang/String;", sig := { parameters := [], returnType := some (.object "java/lang/String") }, accessFlags := 1, code := some k22c2 }
def k22c3 : Code := { maxStack := 1, maxLocals := 1, code := jdk_67_method_93_code, exceptionTable := #[], attributes := #[] }
def k22m3 : Method := { name := "length", desc := "()I", sig := { parameters := [], returnType := some .int }, accessFlags := 4161, code := some k22c3 }
/-- java/lang/StringBuilder -/
def k22 : Class := { plain "java/lang/StringBuilder" (some 21) with
  accessFlags := 49
  interfaces := #[20, 5, 6, 7]
  cf := some (fileOf pool22 24 #[] #[{ accessFlags := 1, nameIndex := 5, descriptorIndex := 145, attributes := #[] }, { accessFlags := 1, nameIndex := 27, descriptorIndex := 292, attributes := #[] }, { accessFlags := 1, nameIndex := 399, descriptorIndex := 400, attributes := #[] }, { accessFlags := 4161, nameIndex := 345, descriptorIndex := 156, attributes := #[] }] 49 2 #[349, 351, 353, 355] #[{ accessFlags := 24, nameIndex := 357, descriptorIndex := 358, attributes := #[] }])
  fields := #[{ name := "serialVersionUID", type := .long, accessFlags := 24, slot := 0, constantValue := 0 }]
  methods := #[k22m0, k22m1, k22m2, k22m3]
  instanceTypes := #[(.array .byte), .byte, .boolean, .int]
  staticTypes := #[.long]
  resolved := Array.replicate 422 none
  statics := none }

def pool23 : Array CpInfo := pool [(2, .class_ 4), (1, u "java/lang/Object"), (0, u "<init>"), (0, u "()V"), (17, .class_ 26), (1, u "jdk/internal/util/Preconditions"), (6, u "checkIndex"), (13, u "checkFromToIndex"), (1, u "checkFromIndexSize"), (5, .class_ 56), (0, u "jdk/internal/util/Preconditions$4"), (57, .class_ 115), (0, u "jdk/internal/util/Preconditions$1"), (7, u "SIOOBE_FORMATTER"), (0, u "Ljava/util/function/BiFunction;"), (0, .class_ 126), (0, u "jdk/internal/util/Preconditions$2"), (3, u "AIOOBE_FORMATTER"), (0, .class_ 132), (0, u "jdk/internal/util/Preconditions$3"), (3, u "IOOBE_FORMATTER"), (41, u "(IILjava/util/function/BiFunction;)I"), (4, u "(IIILjava/util/function/BiFunction;)I")] 10

def k23m0 : Method := { name := "<init>", desc := "()V", sig := { parameters := [], returnType := none }, accessFlags := 1, code := none }
def k23c1 : Code := { maxStack := 3, maxLocals := 3, code := jdk_41_method_11_code, exceptionTable := #[], attributes := #[] }
def k23m1 : Method := { name := "checkIndex", desc := "(IILjava/util/function/BiFunction;)I", sig := { parameters := [.int, .int, (.object "java/util/function/BiFunction")], returnType := some .int }, accessFlags := 9, code := some k23c1 }
def k23c2 : Code := { maxStack := 4, maxLocals := 4, code := jdk_41_method_12_code, exceptionTable := #[], attributes := #[] }
def k23m2 : Method := { name := "checkFromToIndex", desc := "(IIILjava/util/function/BiFunction;)I", sig := { parameters := [.int, .int, .int, (.object "java/util/function/BiFunction")], returnType := some .int }, accessFlags := 9, code := some k23c2 }
def k23c3 : Code := { maxStack := 4, maxLocals := 4, code := jdk_41_method_13_code, exceptionTable := #[], attributes := #[] }
def k23m3 : Method := { name := "checkFromIndexSize", desc := "(IIILjava/util/function/BiFunction;)I", sig := { parameters := [.int, .int, .int, (.object "java/util/function/BiFunction")], returnType := some .int }, accessFlags := 9, code := some k23c3 }
/-- jdk/internal/util/Preconditions -/
def k23 : Class := { plain "jdk/internal/util/Preconditions" (some 0) with
  accessFlags := 33
  interfaces := #[]
  cf := some (fileOf pool23 24 #[.nestMembers #[55, 131, 125, 114]] #[{ accessFlags := 1, nameIndex := 5, descriptorIndex := 6, attributes := #[] }, { accessFlags := 9, nameIndex := 33, descriptorIndex := 178, attributes := #[] }, { accessFlags := 9, nameIndex := 47, descriptorIndex := 183, attributes := #[] }, { accessFlags := 9, nameIndex := 49, descriptorIndex := 183, attributes := #[] }] 33 2 #[] #[{ accessFlags := 25, nameIndex := 123, descriptorIndex := 124, attributes := #[] }, { accessFlags := 25, nameIndex := 130, descriptorIndex := 124, attributes := #[] }, { accessFlags := 25, nameIndex := 136, descriptorIndex := 124, attributes := #[] }])
  fields := #[{ name := "SIOOBE_FORMATTER", type := (.object "java/util/function/BiFunction"), accessFlags := 25, slot := 0, constantValue := 0 }, { name := "AIOOBE_FORMATTER", type := (.object "java/util/function/BiFunction"), accessFlags := 25, slot := 1, constantValue := 0 }, { name := "IOOBE_FORMATTER", type := (.object "java/util/function/BiFunction"), accessFlags := 25, slot := 2, constantValue := 0 }]
  methods := #[k23m0, k23m1, k23m2, k23m3]
  instanceTypes := #[]
  staticTypes := #[(.object "java/util/function/BiFunction"), (.object "java/util/function/BiFunction"), (.object "java/util/function/BiFunction")]
  resolved := Array.replicate 194 none
  statics := some 2 }

def pool24 : Array CpInfo := pool [(1, .class_ 2), (0, u "java/lang/String"), (1, .class_ 6), (1, u "java/lang/Object"), (0, u "<init>"), (0, u "()V"), (0, .methodref 1 10), (0, .nameAndType 11 12), (0, u "checkIndex"), (0, u "(II)V"), (1, .class_ 16), (1, u "java/lang/StringLatin1"), (0, u "inflate"), (2, .class_ 22), (1, u "java/lang/StringUTF16"), (3, .nameAndType 17 27), (0, u "([BI[BII)V"), (25, u "([BI)C"), (36, u "canEncode"), (14, u "(C)Z"), (15, u "$assertionsDisabled"), (0, u "Z"), (98, .class_ 223), (1, u "java/lang/StringLatin1$LinesSpliterator"), (16, .methodref 20 26), (11, u "charAt"), (137, .class_ 391), (0, u "java/lang/StringLatin1$CharsSpliterator")] 3

def k24m0 : Method := { name := "<init>", desc := "()V", sig := { parameters := [], returnType := none }, accessFlags := 0, code := none }
def k24c1 : Code := { maxStack := 2, maxLocals := 2, code := jdk_43_method_2_code, exceptionTable := #[], attributes := #[] }
def k24m1 : Method := { name := "charAt", desc := "([BI)C", sig := { parameters := [(.array .byte), .int], returnType := some .char }, accessFlags := 9, code := some k24c1 }
def k24c2 : Code := { maxStack := 2, maxLocals := 1, code := jdk_43_method_3_code, exceptionTable := #[], attributes := #[] }
def k24m2 : Method := { name := "canEncode", desc := "(C)Z", sig := { parameters := [.char], returnType := some .boolean }, accessFlags := 9, code := some k24c2 }
def k24c3 : Code := { maxStack := 5, maxLocals := 5, code := jdk_43_method_50_code, exceptionTable := #[], attributes := #[] }
def k24m3 : Method := { name := "inflate", desc := "([BI[BII)V", sig := { parameters := [(.array .byte), .int, (.array .byte), .int, .int], returnType := none }, accessFlags := 9, code := some k24c3 }
/-- java/lang/StringLatin1 -/
def k24 : Class := { plain "java/lang/StringLatin1" (some 0) with
  accessFlags := 48
  interfaces := #[]
  cf := some (fileOf pool24 14 #[.nestMembers #[390, 221]] #[{ accessFlags := 0, nameIndex := 7, descriptorIndex := 8, attributes := #[] }, { accessFlags := 9, nameIndex := 252, descriptorIndex := 53, attributes := #[] }, { accessFlags := 9, nameIndex := 90, descriptorIndex := 105, attributes := #[] }, { accessFlags := 9, nameIndex := 17, descriptorIndex := 27, attributes := #[] }] 48 4 #[] #[{ accessFlags := 4120, nameIndex := 121, descriptorIndex := 122, attributes := #[] }])
  fields := #[{ name := "$assertionsDisabled", type := .boolean, accessFlags := 4120, slot := 0, constantValue := 0 }]
  methods := #[k24m0, k24m1, k24m2, k24m3]
  instanceTypes := #[]
  staticTypes := #[.boolean]
  resolved := Array.replicate 395 none
  statics := none }

def pool25 : Array CpInfo := pool [(2, .class_ 4), (1, u "java/lang/Object"), (0, u "<init>"), (0, u "()V"), (7, .class_ 16), (1, u "java/util/Arrays"), (57, .class_ 76), (1, u "java/util/Arrays$NaturalOrder"), (36, .class_ 115), (1, u "java/util/Arrays$LegacyMergeSort"), (1, u "Z"), (21, u "copyOfRange"), (10, .methodref 151 152), (0, .class_ 153), (0, .nameAndType 154 155), (0, u "java/lang/System"), (0, u "arraycopy"), (0, u "(Ljava/lang/Object;ILjava/lang/Object;II)V"), (148, .methodref 305 306), (0, .class_ 307), (0, .nameAndType 308 309), (0, u "java/lang/Math"), (0, u "min"), (0, u "(II)I"), (29, .methodref 14 340), (0, .nameAndType 341 342), (0, u "copyOfRangeByte"), (0, u "([BII)[B"), (0, .methodref 14 344), (0, .nameAndType 345 346), (0, u "checkLength"), (0, u "(II)V"), (28, .class_ 376), (0, u "java/util/Arrays$ArrayList"), (68, u "$assertionsDisabled"), (269, u "MIN_ARRAY_SORT_GRAN"), (0, u "I"), (2, u "INSERTIONSORT_THRESHOLD"), (255, .class_ 976), (0, u "java/util/Arrays$ArrayItr")] 52

def k25m0 : Method := { name := "<init>", desc := "()V", sig := { parameters := [], returnType := none }, accessFlags := 2, code := none }
def k25c1 : Code := { maxStack := 4, maxLocals := 2, code := jdk_65_method_131_code, exceptionTable := #[], attributes := #[] }
def k25m1 : Method := { name := "checkLength", desc := "(II)V", sig := { parameters := [.int, .int], returnType := none }, accessFlags := 10, code := some k25c1 }
def k25c2 : Code := { maxStack := 3, maxLocals := 3, code := jdk_65_method_132_code, exceptionTable := #[], attributes := #[] }
def k25m2 : Method := { name := "copyOfRange", desc := "([BII)[B", sig := { parameters := [(.array .byte), .int, .int], returnType := some (.array .byte) }, accessFlags := 9, code := some k25c2 }
def k25c3 : Code := { maxStack := 6, maxLocals := 5, code := jdk_65_method_133_code, exceptionTable := #[], attributes := #[] }
def k25m3 : Method := { name := "copyOfRangeByte", desc := "([BII)[B", sig := { parameters := [(.array .byte), .int, .int], returnType := some (.array .byte) }, accessFlags := 10, code := some k25c3 }
/-- java/util/Arrays -/
def k25 : Class := { plain "java/util/Arrays" (some 0) with
  accessFlags := 49
  interfaces := #[]
  cf := some (fileOf pool25 14 #[.nestMembers #[975, 375, 113, 74]] #[{ accessFlags := 2, nameIndex := 5, descriptorIndex := 6, attributes := #[] }, { accessFlags := 10, nameIndex := 345, descriptorIndex := 346, attributes := #[] }, { accessFlags := 9, nameIndex := 139, descriptorIndex := 342, attributes := #[] }, { accessFlags := 10, nameIndex := 341, descriptorIndex := 342, attributes := #[] }] 49 2 #[] #[{ accessFlags := 26, nameIndex := 715, descriptorIndex := 716, attributes := #[] }, { accessFlags := 26, nameIndex := 719, descriptorIndex := 716, attributes := #[] }, { accessFlags := 4120, nameIndex := 445, descriptorIndex := 117, attributes := #[] }])
  fields := #[{ name := "MIN_ARRAY_SORT_GRAN", type := .int, accessFlags := 26, slot := 0, constantValue := 0 }, { name := "INSERTIONSORT_THRESHOLD", type := .int, accessFlags := 26, slot := 1, constantValue := 0 }, { name := "$assertionsDisabled", type := .boolean, accessFlags := 4120, slot := 2, constantValue := 0 }]
  methods := #[k25m0, k25m1, k25m2, k25m3]
  instanceTypes := #[]
  staticTypes := #[.int, .int, .boolean]
  resolved := Array.replicate 1029 none
  statics := none }

def pool26 : Array CpInfo := pool [(1, .class_ 2), (0, u "java/lang/Math"), (1, .class_ 6), (1, u "java/lang/Object"), (0, u "<init>"), (0, u "()V"), (89, .class_ 100), (1, u "java/lang/Math$RandomNumberGeneratorHolder"), (71, u "negativeZeroFloatBits"), (0, u "J"), (2, u "negativeZeroDoubleBits"), (24, u "min"), (43, u "$assertionsDisabled"), (0, u "Z"), (88, u "(II)I"), (2, u "twoToTheDoubleScaleDown"), (0, u "D"), (4, u "twoToTheDoubleScaleUp"), (9, u "E"), (3, u "PI"), (2, u "TAU"), (2, u "DEGREES_TO_RADIANS"), (0, u "RADIANS_TO_DEGREES")] 94

def k26m0 : Method := { name := "<init>", desc := "()V", sig := { parameters := [], returnType := none }, accessFlags := 2, code := none }
def k26c1 : Code := { maxStack := 2, maxLocals := 2, code := jdk_29_method_69_code, exceptionTable := #[], attributes := #[] }
def k26m1 : Method := { name := "min", desc := "(II)I", sig := { parameters := [.int, .int], returnType := some .int }, accessFlags := 9, code := some k26c1 }
/-- java/lang/Math -/
def k26 : Class := { plain "java/lang/Math" (some 0) with
  accessFlags := 49
  interfaces := #[]
  cf := some (fileOf pool26 1 #[.nestMembers #[98]] #[{ accessFlags := 2, nameIndex := 7, descriptorIndex := 8, attributes := #[] }, { accessFlags := 9, nameIndex := 201, descriptorIndex := 335, attributes := #[] }] 49 4 #[] #[{ accessFlags := 25, nameIndex := 354, descriptorIndex := 339, attributes := #[] }, { accessFlags := 25, nameIndex := 358, descriptorIndex := 339, attributes := #[] }, { accessFlags := 25, nameIndex := 361, descriptorIndex := 339, attributes := #[] }, { accessFlags := 26, nameIndex := 364, descriptorIndex := 339, attributes := #[] }, { accessFlags := 26, nameIndex := 365, descriptorIndex := 339, attributes := #[] }, { accessFlags := 26, nameIndex := 172, descriptorIndex := 173, attributes := #[] }, { accessFlags := 26, nameIndex := 176, descriptorIndex := 173, attributes := #[] }, { accessFlags := 8, nameIndex := 344, descriptorIndex := 339, attributes := #[] }, { accessFlags := 8, nameIndex := 338, descriptorIndex := 339, attributes := #[] }, { accessFlags := 4120, nameIndex := 245, descriptorIndex := 246, attributes := #[] }])
  fields := #[{ name := "E", type := .double, accessFlags := 25, slot := 0, constantValue := 0 }, { name := "PI", type := .double, accessFlags := 25, slot := 1, constantValue := 0 }, { name := "TAU", type := .double, accessFlags := 25, slot := 2, constantValue := 0 }, { name := "DEGREES_TO_RADIANS", type := .double, accessFlags := 26, slot := 3, constantValue := 0 }, { name := "RADIANS_TO_DEGREES", type := .double, accessFlags := 26, slot := 4, constantValue := 0 }, { name := "negativeZeroFloatBits", type := .long, accessFlags := 26, slot := 5, constantValue := 0 }, { name := "negativeZeroDoubleBits", type := .long, accessFlags := 26, slot := 6, constantValue := 0 }, { name := "twoToTheDoubleScaleUp", type := .double, accessFlags := 8, slot := 7, constantValue := 0 }, { name := "twoToTheDoubleScaleDown", type := .double, accessFlags := 8, slot := 8, constantValue := 0 }, { name := "$assertionsDisabled", type := .boolean, accessFlags := 4120, slot := 9, constantValue := 0 }]
  methods := #[k26m0, k26m1]
  instanceTypes := #[]
  staticTypes := #[.double, .double, .double, .double, .double, .long, .long, .double, .double, .boolean]
  resolved := Array.replicate 460 none
  statics := none }

def pool27 : Array CpInfo := pool [(2, .class_ 4), (1, u "java/lang/Object"), (0, u "<init>"), (0, u "()V"), (1, .class_ 10), (1, u "java/lang/System"), (0, u "allowSecurityManager"), (0, u "I"), (16, u "cons"), (0, u "Ljava/io/Console;"), (77, .class_ 110), (1, u "java/lang/System$CallersHolder"), (43, u "initialErrStream"), (0, u "Ljava/io/PrintStream;"), (19, u "security"), (0, u "Ljava/lang/SecurityManager;"), (31, .class_ 209), (0, u "java/lang/System$1"), (7, u "props"), (0, u "Ljava/util/Properties;"), (2, u "lineSeparator"), (0, u "Ljava/lang/String;"), (96, .class_ 321), (1, u "java/lang/System$LoggerFinder"), (5, .class_ 328), (0, u "java/lang/System$Logger"), (67, u "err"), (2, u "out"), (91, u "notSupportedJnuEncoding"), (15, u "in"), (17, u "initialIn"), (0, u "Ljava/io/InputStream;"), (35, u "bootLayer"), (0, u "Ljava/lang/ModuleLayer;"), (99, .class_ 664), (0, u "java/lang/System$2"), (9, u "NEVER"), (2, u "MAYBE"), (49, u "arraycopy"), (0, u "(Ljava/lang/Object;ILjava/lang/Object;II)V"), (72, .class_ 802), (0, u "java/lang/System$Logger$Level")] 31

def k27m0 : Method := { name := "<init>", desc := "()V", sig := { parameters := [], returnType := none }, accessFlags := 2, code := none }
def k27m1 : Method := { name := "arraycopy", desc := "(Ljava/lang/Object;ILjava/lang/Object;II)V", sig := { parameters := [(.object "java/lang/Object"), .int, (.object "java/lang/Object"), .int, .int], returnType := none }, accessFlags := 265, code := none }
/-- java/lang/System -/
def k27 : Class := { plain "java/lang/System" (some 0) with
  accessFlags := 49
  interfaces := #[]
  cf := some (fileOf pool27 8 #[.nestMembers #[319, 327, 801, 108, 663, 208]] #[{ accessFlags := 2, nameIndex := 5, descriptorIndex := 6, attributes := #[] }, { accessFlags := 265, nameIndex := 727, descriptorIndex := 728, attributes := #[] }] 49 2 #[] #[{ accessFlags := 25, nameIndex := 507, descriptorIndex := 526, attributes := #[] }, { accessFlags := 25, nameIndex := 399, descriptorIndex := 155, attributes := #[] }, { accessFlags := 25, nameIndex := 396, descriptorIndex := 155, attributes := #[] }, { accessFlags := 10, nameIndex := 525, descriptorIndex := 526, attributes := #[] }, { accessFlags := 26, nameIndex := 674, descriptorIndex := 12, attributes := #[] }, { accessFlags := 26, nameIndex := 677, descriptorIndex := 12, attributes := #[] }, { accessFlags := 10, nameIndex := 11, descriptorIndex := 12, attributes := #[] }, { accessFlags := 74, nameIndex := 175, descriptorIndex := 176, attributes := #[] }, { accessFlags := 10, nameIndex := 491, descriptorIndex := 222, attributes := #[] }, { accessFlags := 74, nameIndex := 29, descriptorIndex := 30, attributes := #[] }, { accessFlags := 74, nameIndex := 154, descriptorIndex := 155, attributes := #[] }, { accessFlags := 10, nameIndex := 217, descriptorIndex := 218, attributes := #[] }, { accessFlags := 10, nameIndex := 221, descriptorIndex := 222, attributes := #[] }, { accessFlags := 8, nameIndex := 562, descriptorIndex := 563, attributes := #[] }])
  fields := #[{ name := "in", type := (.object "java/io/InputStream"), accessFlags := 25, slot := 0, constantValue := 0 }, { name := "out", type := (.object "java/io/PrintStream"), accessFlags := 25, slot := 1, constantValue := 0 }, { name := "err", type := (.object "java/io/PrintStream"), accessFlags := 25, slot := 2, constantValue := 0 }, { name := "initialIn", type := (.object "java/io/InputStream"), accessFlags := 10, slot := 3, constantValue := 0 }, { name := "NEVER", type := .int, accessFlags := 26, slot := 4, constantValue := 0 }, { name := "MAYBE", type := .int, accessFlags := 26, slot := 5, constantValue := 0 }, { name := "allowSecurityManager", type := .int, accessFlags := 10, slot := 6, constantValue := 0 }, { name := "security", type := (.object "java/lang/SecurityManager"), accessFlags := 74, slot := 7, constantValue := 0 }, { name := "notSupportedJnuEncoding", type := (.object "java/lang/String"), accessFlags := 10, slot := 8, constantValue := 0 }, { name := "cons", type := (.object "java/io/Console"), accessFlags := 74, slot := 9, constantValue := 0 }, { name := "initialErrStream", type := (.object "java/io/PrintStream"), accessFlags := 74, slot := 10, constantValue := 0 }, { name := "props", type := (.object "java/util/Properties"), accessFlags := 10, slot := 11, constantValue := 0 }, { name := "lineSeparator", type := (.object "java/lang/String"), accessFlags := 10, slot := 12, constantValue := 0 }, { name := "bootLayer", type := (.object "java/lang/ModuleLayer"), accessFlags := 8, slot := 13, constantValue := 0 }]
  methods := #[k27m0, k27m1]
  instanceTypes := #[]
  staticTypes := #[(.object "java/io/InputStream"), (.object "java/io/PrintStream"), (.object "java/io/PrintStream"), (.object "java/io/InputStream"), .int, .int, .int, (.object "java/lang/SecurityManager"), (.object "java/lang/String"), (.object "java/io/Console"), (.object "java/io/PrintStream"), (.object "java/util/Properties"), (.object "java/lang/String"), (.object "java/lang/ModuleLayer")]
  resolved := Array.replicate 834 none
  statics := none }

def pool28 : Array CpInfo := pool [(3, .class_ 4), (0, u "java/lang/String"), (1, .class_ 8), (1, u "java/lang/Object"), (0, u "<init>"), (0, u "()V"), (0, .methodref 12 13), (0, .class_ 14), (0, .nameAndType 15 16), (0, u "java/lang/StringUTF16"), (0, u "newBytesLength"), (0, u "(I)I"), (3, .integer 1073741823), (23, .fieldref 12 45), (0, .nameAndType 46 47), (0, u "$assertionsDisabled"), (0, u "Z"), (0, .methodref 12 49), (0, .nameAndType 50 51), (0, u "length"), (0, u "([B)I"), (7, .fieldref 12 60), (0, .nameAndType 61 62), (0, u "HI_BYTE_SHIFT"), (0, u "I"), (0, .fieldref 12 64), (0, .nameAndType 65 62), (0, u "LO_BYTE_SHIFT"), (1, .methodref 12 68), (0, .nameAndType 69 70), (0, u "checkIndex"), (0, u "(I[B)V"), (0, .methodref 12 72), (0, .nameAndType 73 74), (0, u "getChar"), (0, u "([BI)C"), (21, .methodref 12 97), (0, .nameAndType 98 99), (0, u "checkBoundsBeginEnd"), (0, u "(II[B)V"), (9, u "newBytesFor"), (0, u "(I)[B"), (0, .methodref 12 112), (0, .nameAndType 113 114), (0, u "putChar"), (0, u "([BII)V"), (25, u "inflate"), (0, u "([BI[BII)V"), (31, .methodref 12 174), (0, .nameAndType 175 99), (0, u "checkBoundsOffCount"), (65, .methodref 3 242), (0, .nameAndType 98 243), (0, u "(III)V"), (37, u "(III)I"), (87, .class_ 371), (1, u "java/lang/StringUTF16$LinesSpliterator"), (12, .methodref 12 385), (0, .nameAndType 386 387), (0, u "putChars"), (0, u "([BI[CII)V"), (4, u "charAt"), (21, .methodref 3 415), (0, .nameAndType 69 416), (0, u "(II)V"), (2, .methodref 3 420), (0, .nameAndType 175 281), (9, u "MAX_LENGTH"), (156, u "putCharsSB"), (39, .class_ 628), (0, u "java/lang/StringUTF16$CodePointsSpliterator"), (0, .class_ 630), (0, u "java/lang/StringUTF16$CharsSpliterator")] 4

def k28m0 : Method := { name := "<init>", desc := "()V", sig := { parameters := [], returnType := none }, accessFlags := 0, code := none }
def k28c1 : Code := { maxStack := 1, maxLocals := 1, code := jdk_52_method_2_code, exceptionTable := #[], attributes := #[] }
def k28m1 : Method := { name := "newBytesFor", desc := "(I)[B", sig := { parameters := [.int], returnType := some (.array .byte) }, accessFlags := 9, code := some k28c1 }
def k28c2 : Code := { maxStack := 4, maxLocals := 1, code := jdk_52_method_3_code, exceptionTable := #[], attributes := #[] }
def k28m2 : Method := { name := "newBytesLength", desc := "(I)I", sig := { parameters := [.int], returnType := some .int }, accessFlags := 9, code := some k28c2 }
def k28c3 : Code := { maxStack := 4, maxLocals := 3, code := jdk_52_method_4_code, exceptionTable := #[], attributes := #[] }
def k28m3 : Method := { name := "putChar", desc := "([BII)V", sig := { parameters := [(.array .byte), .int, .int], returnType := none }, accessFlags := 8, code := some k28c3 }
def k28c4 : Code := { maxStack := 3, maxLocals := 2, code := jdk_52_method_5_code, exceptionTable := #[], attributes := #[] }
def k28m4 : Method := { name := "getChar", desc := "([BI)C", sig := { parameters := [(.array .byte), .int], returnType := some .char }, accessFlags := 8, code := some k28c4 }
def k28c5 : Code := { maxStack := 2, maxLocals := 1, code := jdk_52_method_6_code, exceptionTable := #[], attributes := #[] }
def k28m5 : Method := { name := "length", desc := "([B)I", sig := { parameters := [(.array .byte)], returnType := some .int }, accessFlags := 9, code := some k28c5 }
def k28c6 : Code := { maxStack := 4, maxLocals := 5, code := jdk_52_method_68_code, exceptionTable := #[], attributes := #[] }
def k28m6 : Method := { name := "putChars", desc := "([BI[CII)V", sig := { parameters := [(.array .byte), .int, (.array .char), .int, .int], returnType := none }, accessFlags := 10, code := some k28c6 }
def k28c7 : Code := { maxStack := 5, maxLocals := 5, code := jdk_52_method_72_code, exceptionTable := #[], attributes := #[] }
def k28m7 : Method := { name := "putCharsSB", desc := "([BI[CII)V", sig := { parameters := [(.array .byte), .int, (.array .char), .int, .int], returnType := none }, accessFlags := 9, code := some k28c7 }
def k28c8 : Code := { maxStack := 2, maxLocals := 2, code := jdk_52_method_83_code, exceptionTable := #[], attributes := #[] }
def k28m8 : Method := { name := "charAt", desc := "([BI)C", sig := { parameters := [(.array .byte), .int], returnType := some .char }, accessFlags := 9, code := some k28c8 }
def k28c9 : Code := { maxStack := 4, maxLocals := 6, code := jdk_52_method_86_code, exceptionTable := #[], attributes := #[] }
def k28m9 : Method := { name := "inflate", desc := "([BI[BII)V", sig := { parameters := [(.array .byte), .int, (.array .byte), .int, .int], returnType := none }, accessFlags := 9, code := some k28c9 }
def k28c10 : Code := { maxStack := 2, maxLocals := 2, code := jdk_52_method_91_code, exceptionTable := #[], attributes := #[] }
def k28m10 : Method := { name := "checkIndex", desc := "(I[B)V", sig := { parameters := [.int, (.array .byte)], returnType := none }, accessFlags := 9, code := some k28c10 }
def k28c11 : Code := { maxStack := 3, maxLocals := 3, code := jdk_52_method_93_code, exceptionTable := #[], attributes := #[] }
def k28m11 : Method := { name := "checkBoundsBeginEnd", desc := "(II[B)V", sig := { parameters := [.int, .int, (.array .byte)], returnType := none }, accessFlags := 9, code := some k28c11 }
def k28c12 : Code := { maxStack := 3, maxLocals := 3, code := jdk_52_method_94_code, exceptionTable := #[], attributes := #[] }
def k28m12 : Method := { name := "checkBoundsOffCount", desc := "(II[B)V", sig := { parameters := [.int, .int, (.array .byte)], returnType := none }, accessFlags := 9, code := some k28c12 }
/-- java/lang/StringUTF16 -/
def k28 : Class := { plain "java/lang/StringUTF16" (some 0) with
  accessFlags := 48
  interfaces := #[]
  cf := some (fileOf pool28 12 #[.nestMembers #[627, 629, 369]] #[{ accessFlags := 0, nameIndex := 9, descriptorIndex := 10, attributes := #[] }, { accessFlags := 9, nameIndex := 109, descriptorIndex := 110, attributes := #[] }, { accessFlags := 9, nameIndex := 15, descriptorIndex := 16, attributes := #[] }, { accessFlags := 8, nameIndex := 113, descriptorIndex := 114, attributes := #[] }, { accessFlags := 8, nameIndex := 73, descriptorIndex := 74, attributes := #[] }, { accessFlags := 9, nameIndex := 50, descriptorIndex := 51, attributes := #[] }, { accessFlags := 10, nameIndex := 386, descriptorIndex := 387, attributes := #[] }, { accessFlags := 9, nameIndex := 587, descriptorIndex := 387, attributes := #[] }, { accessFlags := 9, nameIndex := 392, descriptorIndex := 74, attributes := #[] }, { accessFlags := 9, nameIndex := 140, descriptorIndex := 141, attributes := #[] }, { accessFlags := 9, nameIndex := 69, descriptorIndex := 70, attributes := #[] }, { accessFlags := 9, nameIndex := 98, descriptorIndex := 99, attributes := #[] }, { accessFlags := 9, nameIndex := 175, descriptorIndex := 99, attributes := #[] }] 48 6 #[] #[{ accessFlags := 26, nameIndex := 61, descriptorIndex := 62, attributes := #[] }, { accessFlags := 26, nameIndex := 65, descriptorIndex := 62, attributes := #[] }, { accessFlags := 24, nameIndex := 430, descriptorIndex := 62, attributes := #[] }, { accessFlags := 4120, nameIndex := 46, descriptorIndex := 47, attributes := #[] }])
  fields := #[{ name := "HI_BYTE_SHIFT", type := .int, accessFlags := 26, slot := 0, constantValue := 0 }, { name := "LO_BYTE_SHIFT", type := .int, accessFlags := 26, slot := 1, constantValue := 0 }, { name := "MAX_LENGTH", type := .int, accessFlags := 24, slot := 2, constantValue := 0 }, { name := "$assertionsDisabled", type := .boolean, accessFlags := 4120, slot := 3, constantValue := 0 }]
  methods := #[k28m0, k28m1, k28m2, k28m3, k28m4, k28m5, k28m6, k28m7, k28m8, k28m9, k28m10, k28m11, k28m12]
  instanceTypes := #[]
  staticTypes := #[.int, .int, .int, .boolean]
  resolved := Array.replicate 635 none
  statics := some 3 }

def pool29 : Array CpInfo := pool [(9, u "<init>"), (6, .class_ 18), (1, u "java/lang/Object"), (0, u "()V"), (1, .class_ 23), (1, u "jdk/internal/util/ArraysSupport"), (0, u "LOG2_ARRAY_LONG_INDEX_SCALE"), (0, u "I"), (2, u "U"), (0, u "Ljdk/internal/misc/Unsafe;"), (8, u "BIG_ENDIAN"), (0, u "Z"), (8, u "LOG2_BYTE_BIT_SIZE"), (4, u "LOG2_ARRAY_INT_INDEX_SCALE"), (54, u "JLA"), (0, u "Ljdk/internal/access/JavaLangAccess;"), (11, u "LOG2_ARRAY_BOOLEAN_INDEX_SCALE"), (9, u "LOG2_ARRAY_BYTE_INDEX_SCALE"), (5, u "LOG2_ARRAY_CHAR_INDEX_SCALE"), (5, u "LOG2_ARRAY_SHORT_INDEX_SCALE"), (18, u "LOG2_ARRAY_FLOAT_INDEX_SCALE"), (24, u "LOG2_ARRAY_DOUBLE_INDEX_SCALE"), (89, u "T_BOOLEAN"), (2, u "T_CHAR"), (1, u "T_FLOAT"), (1, u "T_DOUBLE"), (1, u "T_BYTE"), (1, u "T_SHORT"), (1, u "T_INT"), (1, u "T_LONG"), (1, u "SOFT_MAX_ARRAY_LENGTH")] 83

def k29m0 : Method := { name := "<init>", desc := "()V", sig := { parameters := [], returnType := none }, accessFlags := 2, code := none }
/-- jdk/internal/util/ArraysSupport -/
def k29 : Class := { plain "jdk/internal/util/ArraysSupport" (some 0) with
  accessFlags := 33
  interfaces := #[]
  cf := some (fileOf pool29 21 #[] #[{ accessFlags := 2, nameIndex := 9, descriptorIndex := 19, attributes := #[] }] 33 16 #[] #[{ accessFlags := 24, nameIndex := 28, descriptorIndex := 29, attributes := #[] }, { accessFlags := 26, nameIndex := 38, descriptorIndex := 39, attributes := #[] }, { accessFlags := 25, nameIndex := 121, descriptorIndex := 25, attributes := #[] }, { accessFlags := 25, nameIndex := 131, descriptorIndex := 25, attributes := #[] }, { accessFlags := 25, nameIndex := 137, descriptorIndex := 25, attributes := #[] }, { accessFlags := 25, nameIndex := 143, descriptorIndex := 25, attributes := #[] }, { accessFlags := 25, nameIndex := 53, descriptorIndex := 25, attributes := #[] }, { accessFlags := 25, nameIndex := 24, descriptorIndex := 25, attributes := #[] }, { accessFlags := 25, nameIndex := 162, descriptorIndex := 25, attributes := #[] }, { accessFlags := 25, nameIndex := 187, descriptorIndex := 25, attributes := #[] }, { accessFlags := 26, nameIndex := 48, descriptorIndex := 25, attributes := #[] }, { accessFlags := 25, nameIndex := 277, descriptorIndex := 25, attributes := #[] }, { accessFlags := 25, nameIndex := 280, descriptorIndex := 25, attributes := #[] }, { accessFlags := 25, nameIndex := 282, descriptorIndex := 25, attributes := #[] }, { accessFlags := 25, nameIndex := 284, descriptorIndex := 25, attributes := #[] }, { accessFlags := 25, nameIndex := 286, descriptorIndex := 25, attributes := #[] }, { accessFlags := 25, nameIndex := 288, descriptorIndex := 25, attributes := #[] }, { accessFlags := 25, nameIndex := 290, descriptorIndex := 25, attributes := #[] }, { accessFlags := 25, nameIndex := 292, descriptorIndex := 25, attributes := #[] }, { accessFlags := 26, nameIndex := 108, descriptorIndex := 109, attributes := #[] }, { accessFlags := 25, nameIndex := 294, descriptorIndex := 25, attributes := #[] }])
  fields := #[{ name := "U", type := (.object "jdk/internal/misc/Unsafe"), accessFlags := 24, slot := 0, constantValue := 0 }, { name := "BIG_ENDIAN", type := .boolean, accessFlags := 26, slot := 1, constantValue := 0 }, { name := "LOG2_ARRAY_BOOLEAN_INDEX_SCALE", type := .int, accessFlags := 25, slot := 2, constantValue := 0 }, { name := "LOG2_ARRAY_BYTE_INDEX_SCALE", type := .int, accessFlags := 25, slot := 3, constantValue := 0 }, { name := "LOG2_ARRAY_CHAR_INDEX_SCALE", type := .int, accessFlags := 25, slot := 4, constantValue := 0 }, { name := "LOG2_ARRAY_SHORT_INDEX_SCALE", type := .int, accessFlags := 25, slot := 5, constantValue := 0 }, { name := "LOG2_ARRAY_INT_INDEX_SCALE", type := .int, accessFlags := 25, slot := 6, constantValue := 0 }, { name := "LOG2_ARRAY_LONG_INDEX_SCALE", type := .int, accessFlags := 25, slot := 7, constantValue := 0 }, { name := "LOG2_ARRAY_FLOAT_INDEX_SCALE", type := .int, accessFlags := 25, slot := 8, constantValue := 0 }, { name := "LOG2_ARRAY_DOUBLE_INDEX_SCALE", type := .int, accessFlags := 25, slot := 9, constantValue := 0 }, { name := "LOG2_BYTE_BIT_SIZE", type := .int, accessFlags := 26, slot := 10, constantValue := 0 }, { name := "T_BOOLEAN", type := .int, accessFlags := 25, slot := 11, constantValue := 0 }, { name := "T_CHAR", type := .int, accessFlags := 25, slot := 12, constantValue := 0 }, { name := "T_FLOAT", type := .int, accessFlags := 25, slot := 13, constantValue := 0 }, { name := "T_DOUBLE", type := .int, accessFlags := 25, slot := 14, constantValue := 0 }, { name := "T_BYTE", type := .int, accessFlags := 25, slot := 15, constantValue := 0 }, { name := "T_SHORT", type := .int, accessFlags := 25, slot := 16, constantValue := 0 }, { name := "T_INT", type := .int, accessFlags := 25, slot := 17, constantValue := 0 }, { name := "T_LONG", type := .int, accessFlags := 25, slot := 18, constantValue := 0 }, { name := "JLA", type := (.object "jdk/internal/access/JavaLangAccess"), accessFlags := 26, slot := 19, constantValue := 0 }, { name := "SOFT_MAX_ARRAY_LENGTH", type := .int, accessFlags := 25, slot := 20, constantValue := 0 }]
  methods := #[k29m0]
  instanceTypes := #[]
  staticTypes := #[(.object "jdk/internal/misc/Unsafe"), .boolean, .int, .int, .int, .int, .int, .int, .int, .int, .int, .int, .int, .int, .int, .int, .int, .int, .int, (.object "jdk/internal/access/JavaLangAccess"), .int]
  resolved := Array.replicate 378 none
  statics := none }

/-- the primitive byte -/
def k30 : Class := { plain "byte" none with kind := .primitive 'B', accessFlags := 0x411 }
/-- [B -/
def k31 : Class := { plain "[B" (some 0) with kind := .array 30 .byte, interfaces := #[18, 5], accessFlags := 1041 }

/-- the primitive char -/
def k32 : Class := { plain "char" none with kind := .primitive 'C', accessFlags := 0x411 }
/-- [C -/
def k33 : Class := { plain "[C" (some 0) with kind := .array 32 .char, interfaces := #[18, 5], accessFlags := 1041 }

/-- the primitive int -/
def k34 : Class := { plain "int" none with kind := .primitive 'I', accessFlags := 0x411 }
/-- [I -/
def k35 : Class := { plain "[I" (some 0) with kind := .array 34 .int, interfaces := #[18, 5], accessFlags := 1041 }

/-- [Ljava/lang/Object; -/
def k36 : Class := { plain "[Ljava/lang/Object;" (some 0) with kind := .array 0 (.object "java/lang/Object"), interfaces := #[18, 5], accessFlags := 1041 }

def heap : Heap := #[{ cls := 10, slots := #[.long 0, .int 1, .null, .int 0, .null, .int 0, .int 0], vm := .statics 10 },
  { cls := 19, slots := #[.long 0, .int 0, .ref 4, .ref 5], vm := .statics 19 },
  { cls := 23, slots := #[.null, .null, .null], vm := .statics 23 },
  { cls := 28, slots := #[.int 0, .int 8, .int 0, .int 1], vm := .statics 28 },
  { cls := 36, slots := #[], vm := .none },
  { cls := 36, slots := #[], vm := .none }]
def classes : Array Class := #[k0, k1, k2, k3, k4, k5, k6, k7, k8, k9, k10, k11, k12, k13, k14, k15, k16, k17, k18, k19, k20, k21, k22, k23, k24, k25, k26, k27, k28, k29, k30, k31, k32, k33, k34, k35, k36]
def interned : List (Array UInt16 × Addr) := []
def slotsUsed : Nat := 18
def theMethod : MethodId := ⟨1, 1⟩
def args0 : Array Value := #[.int 5, .int 6, .int 7, .int 8, .int 9, .int 10]
def aboutOver (below : List Frame) : State where
  vm := { classes := classes, interned := interned.toArray }
  heap := heap
  slotsUsed := slotsUsed
  threads := #[{ frames := .invoking theMethod args0 :: below }]
def below0 : List Frame := [.native { method := ⟨0, 0⟩, args := #[] }]
def about1 : State := aboutOver below0
def p0 : Program := .bare "" "" ""
def e0 : Env := launch0.env 0 0 0
theorem w_frames : about1.frames = Frame.invoking theMethod args0 :: below0 := rfl
set_option maxRecDepth 65536 in
theorem w_args : argsFit about1.vm theMethod args0 = true := by decide +kernel
set_option maxRecDepth 65536 in
theorem w_heap : heapFits about1 = true := by decide +kernel
set_option maxRecDepth 65536 in
theorem w_runnable : about1.curStatus? = some .runnable := by decide +kernel
set_option maxRecDepth 65536 in
theorem w_alone : about1.alone = true := by decide +kernel
set_option maxRecDepth 65536 in
theorem w_named : about1.methodNamed? x = some theMethod := by decide +kernel
set_option maxRecDepth 65536 in
theorem w_hears : about1.hears theMethod below0 = true := by decide +kernel
set_option maxRecDepth 65536 in
theorem w_ripe : about1.ripe theMethod args0 below0 = true := by decide +kernel
theorem w_running : about1.status = .running := rfl
set_option maxRecDepth 65536 in
theorem w_room : about1.hasRoom e0.platform room_1 = true :=
  launch0.hasRoom_least _ room_1 (by decide +kernel) (by decide +kernel) (by decide +kernel) (by decide +kernel) (by decide +kernel) (by decide +kernel)
theorem allAtoms_all (ts : List Jvm.Cond) (a : Array Jvm.Value) (st : Jvm.State) : (allAtoms ts).before a st = ts.all (fun c => c.before a st) := by
  induction ts with
  | nil => rfl
  | cons c t ih =>
    show (Jvm.Cond.and c (allAtoms t)).before a st = _
    rw [Jvm.Cond.before_and, ih, List.all_cons]
def words1 : List Jvm.Cond := Jvm.Cond.code x code maxLocals ret :: tables_1
/-- a 'code' word, met by the world's own term for the bytes: nothing is compared byte by byte -/
theorem code_word {y : MethodName} {bytes : ByteArray} {mx : Nat} {rt : Option FieldType} {a : Array Value} {s : State} {m : MethodId} {meth : Method} {c : Code} (h1 : s.methodNamed? y = some m) (h2 : s.vm.method? m = some meth) (h3 : meth.code = some c) (h4 : c.code = bytes)
    (h5 : (c.maxLocals == mx && c.exceptionTable.isEmpty && decide (c.maxStack ≤ mostOperands) && decide (meth.sig.returnType = rt) && !meth.locks && decide (parseMethodDescriptor y.desc = some meth.sig)) = true) : (Jvm.Cond.code y bytes mx rt).before a s = true := by
  simp only [Bool.and_eq_true, beq_iff_eq, Bool.not_eq_true', decide_eq_true_eq] at h5
  obtain ⟨⟨⟨⟨⟨g1, g2⟩, g3⟩, g4⟩, g5⟩, g6⟩ := h5
  simp [Cond.before, Cond.holds, Cond.value, h1, h2, h3, h4, g1, g2, g3, g4, g5, g6]
def isCode : Jvm.Cond → Bool
  | .code _ _ _ _ => true
  | _ => false
theorem all_split {L : List Jvm.Cond} {P : Jvm.Cond → Bool} (h1 : L.all (fun c => isCode c || P c) = true) (h2 : ∀ c ∈ L.filter isCode, P c = true) : L.all P = true := by
  refine List.all_eq_true.mpr fun c hc => ?_
  have h := List.all_eq_true.mp h1 c hc
  rcases Bool.eq_false_or_eq_true (isCode c) with hi | hi
  · exact h2 c (List.mem_filter.mpr ⟨hc, hi⟩)
  · simpa [hi] using h
set_option maxRecDepth 65536 in
theorem w_c0 : (Jvm.Cond.code x code maxLocals ret).before args0 about1 = true := code_word (m := ⟨1, 1⟩) (meth := k1m1) (c := k1c1) (by decide +kernel) rfl rfl rfl (by decide +kernel)
set_option maxRecDepth 65536 in
theorem w_c1 : (Jvm.Cond.code ({ cls := "com/example/loomwright/loomwright/config/Location", name := "<init>", desc := "(Ljava/lang/String;I)V" } : Jvm.MethodName) prog_60_method_1_code (3 : Nat) (Option.none : Option Jvm.ClassFile.FieldType)).before args0 about1 = true := code_word (m := ⟨4, 0⟩) (meth := k4m0) (c := k4c0) (by decide +kernel) rfl rfl rfl (by decide +kernel)
set_option maxRecDepth 65536 in
theorem w_c2 : (Jvm.Cond.code ({ cls := "java/lang/Record", name := "<init>", desc := "()V" } : Jvm.MethodName) jdk_30_method_1_code (1 : Nat) (Option.none : Option Jvm.ClassFile.FieldType)).before args0 about1 = true := code_word (m := ⟨3, 0⟩) (meth := k3m0) (c := k3c0) (by decide +kernel) rfl rfl rfl (by decide +kernel)
set_option maxRecDepth 65536 in
theorem w_c3 : (Jvm.Cond.code ({ cls := "java/lang/Object", name := "<init>", desc := "()V" } : Jvm.MethodName) object_method_1_code (1 : Nat) (Option.none : Option Jvm.ClassFile.FieldType)).before args0 about1 = true := code_word (m := ⟨0, 0⟩) (meth := k0m0) (c := k0c0) (by decide +kernel) rfl rfl rfl (by decide +kernel)
set_option maxRecDepth 65536 in
theorem w_c4 : (Jvm.Cond.code ({ cls := "com/example/loomwright/loomwright/rule/XmlElement", name := "<init>", desc := "(Lcom/example/loomwright/loomwright/config/Location;Ljava/lang/String;Ljava/util/Map;)V" } : Jvm.MethodName) prog_100_method_1_code (4 : Nat) (Option.none : Option Jvm.ClassFile.FieldType)).before args0 about1 = true := code_word (m := ⟨2, 0⟩) (meth := k2m0) (c := k2c0) (by decide +kernel) rfl rfl rfl (by decide +kernel)
set_option maxRecDepth 65536 in
theorem w_c5 : (Jvm.Cond.code ({ cls := "java/util/ArrayList", name := "<init>", desc := "()V" } : Jvm.MethodName) jdk_38_method_2_code (1 : Nat) (Option.none : Option Jvm.ClassFile.FieldType)).before args0 about1 = true := code_word (m := ⟨19, 0⟩) (meth := k19m0) (c := k19c0) (by decide +kernel) rfl rfl rfl (by decide +kernel)
set_option maxRecDepth 65536 in
theorem w_c6 : (Jvm.Cond.code ({ cls := "java/util/AbstractList", name := "<init>", desc := "()V" } : Jvm.MethodName) jdk_39_method_1_code (1 : Nat) (Option.none : Option Jvm.ClassFile.FieldType)).before args0 about1 = true := code_word (m := ⟨16, 0⟩) (meth := k16m0) (c := k16c0) (by decide +kernel) rfl rfl rfl (by decide +kernel)
set_option maxRecDepth 65536 in
theorem w_c7 : (Jvm.Cond.code ({ cls := "java/util/AbstractCollection", name := "<init>", desc := "()V" } : Jvm.MethodName) jdk_22_method_1_code (1 : Nat) (Option.none : Option Jvm.ClassFile.FieldType)).before args0 about1 = true := code_word (m := ⟨13, 0⟩) (meth := k13m0) (c := k13c0) (by decide +kernel) rfl rfl rfl (by decide +kernel)
set_option maxRecDepth 65536 in
theorem w_c8 : (Jvm.Cond.code ({ cls := "java/lang/StringBuilder", name := "<init>", desc := "()V" } : Jvm.MethodName) jdk_67_method_1_code (1 : Nat) (Option.none : Option Jvm.ClassFile.FieldType)).before args0 about1 = true := code_word (m := ⟨22, 0⟩) (meth := k22m0) (c := k22c0) (by decide +kernel) rfl rfl rfl (by decide +kernel)
set_option maxRecDepth 65536 in
theorem w_c9 : (Jvm.Cond.code ({ cls := "java/lang/AbstractStringBuilder", name := "<init>", desc := "(I)V" } : Jvm.MethodName) jdk_68_method_2_code (2 : Nat) (Option.none : Option Jvm.ClassFile.FieldType)).before args0 about1 = true := code_word (m := ⟨21, 1⟩) (meth := k21m1) (c := k21c1) (by decide +kernel) rfl rfl rfl (by decide +kernel)
set_option maxRecDepth 65536 in
theorem w_c10 : (Jvm.Cond.code ({ cls := "com/example/loomwright/loomwright/rule/XmlElement", name := "appendText", desc := "([CII)V" } : Jvm.MethodName) prog_100_method_6_code (4 : Nat) (Option.none : Option Jvm.ClassFile.FieldType)).before args0 about1 = true := code_word (m := ⟨2, 1⟩) (meth := k2m1) (c := k2c1) (by decide +kernel) rfl rfl rfl (by decide +kernel)
set_option maxRecDepth 65536 in
theorem w_c11 : (Jvm.Cond.code ({ cls := "java/lang/StringBuilder", name := "append", desc := "([CII)Ljava/lang/StringBuilder;" } : Jvm.MethodName) jdk_67_method_12_code (4 : Nat) (Option.some (Jvm.ClassFile.FieldType.object "java/lang/StringBuilder"))).before args0 about1 = true := code_word (m := ⟨22, 1⟩) (meth := k22m1) (c := k22c1) (by decide +kernel) rfl rfl rfl (by decide +kernel)
set_option maxRecDepth 65536 in
theorem w_c12 : (Jvm.Cond.code ({ cls := "java/lang/AbstractStringBuilder", name := "append", desc := "([CII)Ljava/lang/AbstractStringBuilder;" } : Jvm.MethodName) jdk_68_method_29_code (5 : Nat) (Option.some (Jvm.ClassFile.FieldType.object "java/lang/AbstractStringBuilder"))).before args0 about1 = true := code_word (m := ⟨21, 5⟩) (meth := k21m5) (c := k21c5) (by decide +kernel) rfl rfl rfl (by decide +kernel)
set_option maxRecDepth 65536 in
theorem w_c13 : (Jvm.Cond.code ({ cls := "jdk/internal/util/Preconditions", name := "checkFromToIndex", desc := "(IIILjava/util/function/BiFunction;)I" } : Jvm.MethodName) jdk_41_method_12_code (4 : Nat) (Option.some Jvm.ClassFile.FieldType.int)).before args0 about1 = true := code_word (m := ⟨23, 2⟩) (meth := k23m2) (c := k23c2) (by decide +kernel) rfl rfl rfl (by decide +kernel)
set_option maxRecDepth 65536 in
theorem w_c14 : (Jvm.Cond.code ({ cls := "java/lang/AbstractStringBuilder", name := "ensureCapacityInternal", desc := "(I)V" } : Jvm.MethodName) jdk_68_method_9_code (3 : Nat) (Option.none : Option Jvm.ClassFile.FieldType)).before args0 about1 = true := code_word (m := ⟨21, 3⟩) (meth := k21m3) (c := k21c3) (by decide +kernel) rfl rfl rfl (by decide +kernel)
set_option maxRecDepth 65536 in
theorem w_c15 : (Jvm.Cond.code ({ cls := "java/lang/AbstractStringBuilder", name := "appendChars", desc := "([CII)V" } : Jvm.MethodName) jdk_68_method_74_code (9 : Nat) (Option.none : Option Jvm.ClassFile.FieldType)).before args0 about1 = true := code_word (m := ⟨21, 8⟩) (meth := k21m8) (c := k21c8) (by decide +kernel) rfl rfl rfl (by decide +kernel)
set_option maxRecDepth 65536 in
theorem w_c16 : (Jvm.Cond.code ({ cls := "java/lang/AbstractStringBuilder", name := "isLatin1", desc := "()Z" } : Jvm.MethodName) jdk_68_method_68_code (1 : Nat) (Option.some Jvm.ClassFile.FieldType.boolean)).before args0 about1 = true := code_word (m := ⟨21, 7⟩) (meth := k21m7) (c := k21c7) (by decide +kernel) rfl rfl rfl (by decide +kernel)
set_option maxRecDepth 65536 in
theorem w_c17 : (Jvm.Cond.code ({ cls := "java/lang/StringLatin1", name := "canEncode", desc := "(C)Z" } : Jvm.MethodName) jdk_43_method_3_code (1 : Nat) (Option.some Jvm.ClassFile.FieldType.boolean)).before args0 about1 = true := code_word (m := ⟨24, 2⟩) (meth := k24m2) (c := k24c2) (by decide +kernel) rfl rfl rfl (by decide +kernel)
set_option maxRecDepth 65536 in
theorem w_c18 : (Jvm.Cond.code ({ cls := "com/example/loomwright/loomwright/rule/XmlElement", name := "text", desc := "()Ljava/lang/String;" } : Jvm.MethodName) prog_100_method_8_code (1 : Nat) (Option.some (Jvm.ClassFile.FieldType.object "java/lang/String"))).before args0 about1 = true := code_word (m := ⟨2, 2⟩) (meth := k2m2) (c := k2c2) (by decide +kernel) rfl rfl rfl (by decide +kernel)
set_option maxRecDepth 65536 in
theorem w_c19 : (Jvm.Cond.code ({ cls := "java/lang/StringBuilder", name := "toString", desc := "()Ljava/lang/String;" } : Jvm.MethodName) jdk_67_method_42_code (1 : Nat) (Option.some (Jvm.ClassFile.FieldType.object "java/lang/String"))).before args0 about1 = true := code_word (m := ⟨22, 2⟩) (meth := k22m2) (c := k22c2) (by decide +kernel) rfl rfl rfl (by decide +kernel)
set_option maxRecDepth 65536 in
theorem w_c20 : (Jvm.Cond.code ({ cls := "java/lang/String", name := "<init>", desc := "(Ljava/lang/StringBuilder;)V" } : Jvm.MethodName) jdk_42_method_53_code (2 : Nat) (Option.none : Option Jvm.ClassFile.FieldType)).before args0 about1 = true := code_word (m := ⟨10, 1⟩) (meth := k10m1) (c := k10c1) (by decide +kernel) rfl rfl rfl (by decide +kernel)
set_option maxRecDepth 65536 in
theorem w_c21 : (Jvm.Cond.code ({ cls := "java/lang/String", name := "<init>", desc := "(Ljava/lang/AbstractStringBuilder;Ljava/lang/Void;)V" } : Jvm.MethodName) jdk_42_method_150_code (5 : Nat) (Option.none : Option Jvm.ClassFile.FieldType)).before args0 about1 = true := code_word (m := ⟨10, 4⟩) (meth := k10m4) (c := k10c4) (by decide +kernel) rfl rfl rfl (by decide +kernel)
set_option maxRecDepth 65536 in
theorem w_c22 : (Jvm.Cond.code ({ cls := "java/lang/AbstractStringBuilder", name := "getValue", desc := "()[B" } : Jvm.MethodName) jdk_68_method_64_code (1 : Nat) (Option.some (Jvm.ClassFile.FieldType.array Jvm.ClassFile.FieldType.byte))).before args0 about1 = true := code_word (m := ⟨21, 6⟩) (meth := k21m6) (c := k21c6) (by decide +kernel) rfl rfl rfl (by decide +kernel)
set_option maxRecDepth 65536 in
theorem w_c23 : (Jvm.Cond.code ({ cls := "java/lang/StringBuilder", name := "length", desc := "()I" } : Jvm.MethodName) jdk_67_method_93_code (1 : Nat) (Option.some Jvm.ClassFile.FieldType.int)).before args0 about1 = true := code_word (m := ⟨22, 3⟩) (meth := k22m3) (c := k22c3) (by decide +kernel) rfl rfl rfl (by decide +kernel)
set_option maxRecDepth 65536 in
theorem w_c24 : (Jvm.Cond.code ({ cls := "java/lang/AbstractStringBuilder", name := "length", desc := "()I" } : Jvm.MethodName) jdk_68_method_6_code (1 : Nat) (Option.some Jvm.ClassFile.FieldType.int)).before args0 about1 = true := code_word (m := ⟨21, 2⟩) (meth := k21m2) (c := k21c2) (by decide +kernel) rfl rfl rfl (by decide +kernel)
set_option maxRecDepth 65536 in
theorem w_c25 : (Jvm.Cond.code ({ cls := "java/util/Arrays", name := "copyOfRange", desc := "([BII)[B" } : Jvm.MethodName) jdk_65_method_132_code (3 : Nat) (Option.some (Jvm.ClassFile.FieldType.array Jvm.ClassFile.FieldType.byte))).before args0 about1 = true := code_word (m := ⟨25, 2⟩) (meth := k25m2) (c := k25c2) (by decide +kernel) rfl rfl rfl (by decide +kernel)
set_option maxRecDepth 65536 in
theorem w_c26 : (Jvm.Cond.code ({ cls := "java/util/Arrays", name := "copyOfRangeByte", desc := "([BII)[B" } : Jvm.MethodName) jdk_65_method_133_code (5 : Nat) (Option.some (Jvm.ClassFile.FieldType.array Jvm.ClassFile.FieldType.byte))).before args0 about1 = true := code_word (m := ⟨25, 3⟩) (meth := k25m3) (c := k25c3) (by decide +kernel) rfl rfl rfl (by decide +kernel)
set_option maxRecDepth 65536 in
theorem w_c27 : (Jvm.Cond.code ({ cls := "java/util/Arrays", name := "checkLength", desc := "(II)V" } : Jvm.MethodName) jdk_65_method_131_code (2 : Nat) (Option.none : Option Jvm.ClassFile.FieldType)).before args0 about1 = true := code_word (m := ⟨25, 1⟩) (meth := k25m1) (c := k25c1) (by decide +kernel) rfl rfl rfl (by decide +kernel)
set_option maxRecDepth 65536 in
theorem w_c28 : (Jvm.Cond.code ({ cls := "java/lang/Math", name := "min", desc := "(II)I" } : Jvm.MethodName) jdk_29_method_69_code (2 : Nat) (Option.some Jvm.ClassFile.FieldType.int)).before args0 about1 = true := code_word (m := ⟨26, 1⟩) (meth := k26m1) (c := k26c1) (by decide +kernel) rfl rfl rfl (by decide +kernel)
set_option maxRecDepth 65536 in
theorem w_c29 : (Jvm.Cond.code ({ cls := "java/lang/String", name := "length", desc := "()I" } : Jvm.MethodName) jdk_42_method_54_code (1 : Nat) (Option.some Jvm.ClassFile.FieldType.int)).before args0 about1 = true := code_word (m := ⟨10, 2⟩) (meth := k10m2) (c := k10c2) (by decide +kernel) rfl rfl rfl (by decide +kernel)
set_option maxRecDepth 65536 in
theorem w_c30 : (Jvm.Cond.code ({ cls := "java/lang/String", name := "coder", desc := "()B" } : Jvm.MethodName) jdk_42_method_152_code (1 : Nat) (Option.some Jvm.ClassFile.FieldType.byte)).before args0 about1 = true := code_word (m := ⟨10, 5⟩) (meth := k10m5) (c := k10c5) (by decide +kernel) rfl rfl rfl (by decide +kernel)
set_option maxRecDepth 65536 in
theorem w_c31 : (Jvm.Cond.code ({ cls := "com/example/loomwright/loomwright/rule/XmlElementAppendTextPinLaw", name := "at", desc := "(Ljava/lang/String;I[CIII)Z" } : Jvm.MethodName) method_3_code (7 : Nat) (Option.some Jvm.ClassFile.FieldType.boolean)).before args0 about1 = true := code_word (m := ⟨1, 2⟩) (meth := k1m2) (c := k1c2) (by decide +kernel) rfl rfl rfl (by decide +kernel)
set_option maxRecDepth 65536 in
theorem w_c32 : (Jvm.Cond.code ({ cls := "java/lang/String", name := "charAt", desc := "(I)C" } : Jvm.MethodName) jdk_42_method_56_code (2 : Nat) (Option.some Jvm.ClassFile.FieldType.char)).before args0 about1 = true := code_word (m := ⟨10, 3⟩) (meth := k10m3) (c := k10c3) (by decide +kernel) rfl rfl rfl (by decide +kernel)
set_option maxRecDepth 65536 in
theorem w_c33 : (Jvm.Cond.code ({ cls := "java/lang/String", name := "isLatin1", desc := "()Z" } : Jvm.MethodName) jdk_42_method_154_code (1 : Nat) (Option.some Jvm.ClassFile.FieldType.boolean)).before args0 about1 = true := code_word (m := ⟨10, 6⟩) (meth := k10m6) (c := k10c6) (by decide +kernel) rfl rfl rfl (by decide +kernel)
set_option maxRecDepth 65536 in
theorem w_c34 : (Jvm.Cond.code ({ cls := "java/lang/StringLatin1", name := "charAt", desc := "([BI)C" } : Jvm.MethodName) jdk_43_method_2_code (2 : Nat) (Option.some Jvm.ClassFile.FieldType.char)).before args0 about1 = true := code_word (m := ⟨24, 1⟩) (meth := k24m1) (c := k24c1) (by decide +kernel) rfl rfl rfl (by decide +kernel)
set_option maxRecDepth 65536 in
theorem w_c35 : (Jvm.Cond.code ({ cls := "java/lang/String", name := "checkIndex", desc := "(II)V" } : Jvm.MethodName) jdk_42_method_155_code (2 : Nat) (Option.none : Option Jvm.ClassFile.FieldType)).before args0 about1 = true := code_word (m := ⟨10, 7⟩) (meth := k10m7) (c := k10c7) (by decide +kernel) rfl rfl rfl (by decide +kernel)
set_option maxRecDepth 65536 in
theorem w_c36 : (Jvm.Cond.code ({ cls := "jdk/internal/util/Preconditions", name := "checkIndex", desc := "(IILjava/util/function/BiFunction;)I" } : Jvm.MethodName) jdk_41_method_11_code (3 : Nat) (Option.some Jvm.ClassFile.FieldType.int)).before args0 about1 = true := code_word (m := ⟨23, 1⟩) (meth := k23m1) (c := k23c1) (by decide +kernel) rfl rfl rfl (by decide +kernel)
set_option maxRecDepth 65536 in
theorem w_c37 : (Jvm.Cond.code ({ cls := "java/lang/AbstractStringBuilder", name := "inflate", desc := "()V" } : Jvm.MethodName) jdk_68_method_11_code (2 : Nat) (Option.none : Option Jvm.ClassFile.FieldType)).before args0 about1 = true := code_word (m := ⟨21, 4⟩) (meth := k21m4) (c := k21c4) (by decide +kernel) rfl rfl rfl (by decide +kernel)
set_option maxRecDepth 65536 in
theorem w_c38 : (Jvm.Cond.code ({ cls := "java/lang/StringUTF16", name := "newBytesFor", desc := "(I)[B" } : Jvm.MethodName) jdk_52_method_2_code (1 : Nat) (Option.some (Jvm.ClassFile.FieldType.array Jvm.ClassFile.FieldType.byte))).before args0 about1 = true := code_word (m := ⟨28, 1⟩) (meth := k28m1) (c := k28c1) (by decide +kernel) rfl rfl rfl (by decide +kernel)
set_option maxRecDepth 65536 in
theorem w_c39 : (Jvm.Cond.code ({ cls := "java/lang/StringUTF16", name := "newBytesLength", desc := "(I)I" } : Jvm.MethodName) jdk_52_method_3_code (1 : Nat) (Option.some Jvm.ClassFile.FieldType.int)).before args0 about1 = true := code_word (m := ⟨28, 2⟩) (meth := k28m2) (c := k28c2) (by decide +kernel) rfl rfl rfl (by decide +kernel)
set_option maxRecDepth 65536 in
theorem w_c40 : (Jvm.Cond.code ({ cls := "java/lang/StringLatin1", name := "inflate", desc := "([BI[BII)V" } : Jvm.MethodName) jdk_43_method_50_code (5 : Nat) (Option.none : Option Jvm.ClassFile.FieldType)).before args0 about1 = true := code_word (m := ⟨24, 3⟩) (meth := k24m3) (c := k24c3) (by decide +kernel) rfl rfl rfl (by decide +kernel)
set_option maxRecDepth 65536 in
theorem w_c41 : (Jvm.Cond.code ({ cls := "java/lang/StringUTF16", name := "inflate", desc := "([BI[BII)V" } : Jvm.MethodName) jdk_52_method_86_code (6 : Nat) (Option.none : Option Jvm.ClassFile.FieldType)).before args0 about1 = true := code_word (m := ⟨28, 9⟩) (meth := k28m9) (c := k28c9) (by decide +kernel) rfl rfl rfl (by decide +kernel)
set_option maxRecDepth 65536 in
theorem w_c42 : (Jvm.Cond.code ({ cls := "java/lang/StringUTF16", name := "checkBoundsOffCount", desc := "(II[B)V" } : Jvm.MethodName) jdk_52_method_94_code (3 : Nat) (Option.none : Option Jvm.ClassFile.FieldType)).before args0 about1 = true := code_word (m := ⟨28, 12⟩) (meth := k28m12) (c := k28c12) (by decide +kernel) rfl rfl rfl (by decide +kernel)
set_option maxRecDepth 65536 in
theorem w_c43 : (Jvm.Cond.code ({ cls := "java/lang/StringUTF16", name := "length", desc := "([B)I" } : Jvm.MethodName) jdk_52_method_6_code (1 : Nat) (Option.some Jvm.ClassFile.FieldType.int)).before args0 about1 = true := code_word (m := ⟨28, 5⟩) (meth := k28m5) (c := k28c5) (by decide +kernel) rfl rfl rfl (by decide +kernel)
set_option maxRecDepth 65536 in
theorem w_c44 : (Jvm.Cond.code ({ cls := "java/lang/String", name := "checkBoundsOffCount", desc := "(III)I" } : Jvm.MethodName) jdk_42_method_157_code (3 : Nat) (Option.some Jvm.ClassFile.FieldType.int)).before args0 about1 = true := code_word (m := ⟨10, 8⟩) (meth := k10m8) (c := k10c8) (by decide +kernel) rfl rfl rfl (by decide +kernel)
set_option maxRecDepth 65536 in
theorem w_c45 : (Jvm.Cond.code ({ cls := "jdk/internal/util/Preconditions", name := "checkFromIndexSize", desc := "(IIILjava/util/function/BiFunction;)I" } : Jvm.MethodName) jdk_41_method_13_code (4 : Nat) (Option.some Jvm.ClassFile.FieldType.int)).before args0 about1 = true := code_word (m := ⟨23, 3⟩) (meth := k23m3) (c := k23c3) (by decide +kernel) rfl rfl rfl (by decide +kernel)
set_option maxRecDepth 65536 in
theorem w_c46 : (Jvm.Cond.code ({ cls := "java/lang/StringUTF16", name := "putCharsSB", desc := "([BI[CII)V" } : Jvm.MethodName) jdk_52_method_72_code (5 : Nat) (Option.none : Option Jvm.ClassFile.FieldType)).before args0 about1 = true := code_word (m := ⟨28, 7⟩) (meth := k28m7) (c := k28c7) (by decide +kernel) rfl rfl rfl (by decide +kernel)
set_option maxRecDepth 65536 in
theorem w_c47 : (Jvm.Cond.code ({ cls := "java/lang/StringUTF16", name := "checkBoundsBeginEnd", desc := "(II[B)V" } : Jvm.MethodName) jdk_52_method_93_code (3 : Nat) (Option.none : Option Jvm.ClassFile.FieldType)).before args0 about1 = true := code_word (m := ⟨28, 11⟩) (meth := k28m11) (c := k28c11) (by decide +kernel) rfl rfl rfl (by decide +kernel)
set_option maxRecDepth 65536 in
theorem w_c48 : (Jvm.Cond.code ({ cls := "java/lang/String", name := "checkBoundsBeginEnd", desc := "(III)V" } : Jvm.MethodName) jdk_42_method_158_code (3 : Nat) (Option.none : Option Jvm.ClassFile.FieldType)).before args0 about1 = true := code_word (m := ⟨10, 9⟩) (meth := k10m9) (c := k10c9) (by decide +kernel) rfl rfl rfl (by decide +kernel)
set_option maxRecDepth 65536 in
theorem w_c49 : (Jvm.Cond.code ({ cls := "java/lang/StringUTF16", name := "putChars", desc := "([BI[CII)V" } : Jvm.MethodName) jdk_52_method_68_code (5 : Nat) (Option.none : Option Jvm.ClassFile.FieldType)).before args0 about1 = true := code_word (m := ⟨28, 6⟩) (meth := k28m6) (c := k28c6) (by decide +kernel) rfl rfl rfl (by decide +kernel)
set_option maxRecDepth 65536 in
theorem w_c50 : (Jvm.Cond.code ({ cls := "java/lang/StringUTF16", name := "putChar", desc := "([BII)V" } : Jvm.MethodName) jdk_52_method_4_code (3 : Nat) (Option.none : Option Jvm.ClassFile.FieldType)).before args0 about1 = true := code_word (m := ⟨28, 3⟩) (meth := k28m3) (c := k28c3) (by decide +kernel) rfl rfl rfl (by decide +kernel)
set_option maxRecDepth 65536 in
theorem w_c51 : (Jvm.Cond.code ({ cls := "java/lang/StringUTF16", name := "charAt", desc := "([BI)C" } : Jvm.MethodName) jdk_52_method_83_code (2 : Nat) (Option.some Jvm.ClassFile.FieldType.char)).before args0 about1 = true := code_word (m := ⟨28, 8⟩) (meth := k28m8) (c := k28c8) (by decide +kernel) rfl rfl rfl (by decide +kernel)
set_option maxRecDepth 65536 in
theorem w_c52 : (Jvm.Cond.code ({ cls := "java/lang/StringUTF16", name := "checkIndex", desc := "(I[B)V" } : Jvm.MethodName) jdk_52_method_91_code (2 : Nat) (Option.none : Option Jvm.ClassFile.FieldType)).before args0 about1 = true := code_word (m := ⟨28, 10⟩) (meth := k28m10) (c := k28c10) (by decide +kernel) rfl rfl rfl (by decide +kernel)
set_option maxRecDepth 65536 in
theorem w_c53 : (Jvm.Cond.code ({ cls := "java/lang/StringUTF16", name := "getChar", desc := "([BI)C" } : Jvm.MethodName) jdk_52_method_5_code (2 : Nat) (Option.some Jvm.ClassFile.FieldType.char)).before args0 about1 = true := code_word (m := ⟨28, 4⟩) (meth := k28m4) (c := k28c4) (by decide +kernel) rfl rfl rfl (by decide +kernel)
def codes1 : List Jvm.Cond := [Jvm.Cond.code x code maxLocals ret, Jvm.Cond.code ({ cls := "com/example/loomwright/loomwright/config/Location", name := "<init>", desc := "(Ljava/lang/String;I)V" } : Jvm.MethodName) prog_60_method_1_code (3 : Nat) (Option.none : Option Jvm.ClassFile.FieldType), Jvm.Cond.code ({ cls := "java/lang/Record", name := "<init>", desc := "()V" } : Jvm.MethodName) jdk_30_method_1_code (1 : Nat) (Option.none : Option Jvm.ClassFile.FieldType), Jvm.Cond.code ({ cls := "java/lang/Object", name := "<init>", desc := "()V" } : Jvm.MethodName) object_method_1_code (1 : Nat) (Option.none : Option Jvm.ClassFile.FieldType), Jvm.Cond.code ({ cls := "com/example/loomwright/loomwright/rule/XmlElement", name := "<init>", desc := "(Lcom/example/loomwright/loomwright/config/Location;Ljava/lang/String;Ljava/util/Map;)V" } : Jvm.MethodName) prog_100_method_1_code (4 : Nat) (Option.none : Option Jvm.ClassFile.FieldType), Jvm.Cond.code ({ cls := "java/util/ArrayList", name := "<init>", desc := "()V" } : Jvm.MethodName) jdk_38_method_2_code (1 : Nat) (Option.none : Option Jvm.ClassFile.FieldType), Jvm.Cond.code ({ cls := "java/util/AbstractList", name := "<init>", desc := "()V" } : Jvm.MethodName) jdk_39_method_1_code (1 : Nat) (Option.none : Option Jvm.ClassFile.FieldType), Jvm.Cond.code ({ cls := "java/util/AbstractCollection", name := "<init>", desc := "()V" } : Jvm.MethodName) jdk_22_method_1_code (1 : Nat) (Option.none : Option Jvm.ClassFile.FieldType), Jvm.Cond.code ({ cls := "java/lang/StringBuilder", name := "<init>", desc := "()V" } : Jvm.MethodName) jdk_67_method_1_code (1 : Nat) (Option.none : Option Jvm.ClassFile.FieldType), Jvm.Cond.code ({ cls := "java/lang/AbstractStringBuilder", name := "<init>", desc := "(I)V" } : Jvm.MethodName) jdk_68_method_2_code (2 : Nat) (Option.none : Option Jvm.ClassFile.FieldType), Jvm.Cond.code ({ cls := "com/example/loomwright/loomwright/rule/XmlElement", name := "appendText", desc := "([CII)V" } : Jvm.MethodName) prog_100_method_6_code (4 : Nat) (Option.none : Option Jvm.ClassFile.FieldType), Jvm.Cond.code ({ cls := "java/lang/StringBuilder", name := "append", desc := "([CII)Ljava/lang/StringBuilder;" } : Jvm.MethodName) jdk_67_method_12_code (4 : Nat) (Option.some (Jvm.ClassFile.FieldType.object "java/lang/StringBuilder")), Jvm.Cond.code ({ cls := "java/lang/AbstractStringBuilder", name := "append", desc := "([CII)Ljava/lang/AbstractStringBuilder;" } : Jvm.MethodName) jdk_68_method_29_code (5 : Nat) (Option.some (Jvm.ClassFile.FieldType.object "java/lang/AbstractStringBuilder")), Jvm.Cond.code ({ cls := "jdk/internal/util/Preconditions", name := "checkFromToIndex", desc := "(IIILjava/util/function/BiFunction;)I" } : Jvm.MethodName) jdk_41_method_12_code (4 : Nat) (Option.some Jvm.ClassFile.FieldType.int), Jvm.Cond.code ({ cls := "java/lang/AbstractStringBuilder", name := "ensureCapacityInternal", desc := "(I)V" } : Jvm.MethodName) jdk_68_method_9_code (3 : Nat) (Option.none : Option Jvm.ClassFile.FieldType), Jvm.Cond.code ({ cls := "java/lang/AbstractStringBuilder", name := "appendChars", desc := "([CII)V" } : Jvm.MethodName) jdk_68_method_74_code (9 : Nat) (Option.none : Option Jvm.ClassFile.FieldType), Jvm.Cond.code ({ cls := "java/lang/AbstractStringBuilder", name := "isLatin1", desc := "()Z" } : Jvm.MethodName) jdk_68_method_68_code (1 : Nat) (Option.some Jvm.ClassFile.FieldType.boolean), Jvm.Cond.code ({ cls := "java/lang/StringLatin1", name := "canEncode", desc := "(C)Z" } : Jvm.MethodName) jdk_43_method_3_code (1 : Nat) (Option.some Jvm.ClassFile.FieldType.boolean), Jvm.Cond.code ({ cls := "com/example/loomwright/loomwright/rule/XmlElement", name := "text", desc := "()Ljava/lang/String;" } : Jvm.MethodName) prog_100_method_8_code (1 : Nat) (Option.some (Jvm.ClassFile.FieldType.object "java/lang/String")), Jvm.Cond.code ({ cls := "java/lang/StringBuilder", name := "toString", desc := "()Ljava/lang/String;" } : Jvm.MethodName) jdk_67_method_42_code (1 : Nat) (Option.some (Jvm.ClassFile.FieldType.object "java/lang/String")), Jvm.Cond.code ({ cls := "java/lang/String", name := "<init>", desc := "(Ljava/lang/StringBuilder;)V" } : Jvm.MethodName) jdk_42_method_53_code (2 : Nat) (Option.none : Option Jvm.ClassFile.FieldType), Jvm.Cond.code ({ cls := "java/lang/String", name := "<init>", desc := "(Ljava/lang/AbstractStringBuilder;Ljava/lang/Void;)V" } : Jvm.MethodName) jdk_42_method_150_code (5 : Nat) (Option.none : Option Jvm.ClassFile.FieldType), Jvm.Cond.code ({ cls := "java/lang/AbstractStringBuilder", name := "getValue", desc := "()[B" } : Jvm.MethodName) jdk_68_method_64_code (1 : Nat) (Option.some (Jvm.ClassFile.FieldType.array Jvm.ClassFile.FieldType.byte)), Jvm.Cond.code ({ cls := "java/lang/StringBuilder", name := "length", desc := "()I" } : Jvm.MethodName) jdk_67_method_93_code (1 : Nat) (Option.some Jvm.ClassFile.FieldType.int), Jvm.Cond.code ({ cls := "java/lang/AbstractStringBuilder", name := "length", desc := "()I" } : Jvm.MethodName) jdk_68_method_6_code (1 : Nat) (Option.some Jvm.ClassFile.FieldType.int), Jvm.Cond.code ({ cls := "java/util/Arrays", name := "copyOfRange", desc := "([BII)[B" } : Jvm.MethodName) jdk_65_method_132_code (3 : Nat) (Option.some (Jvm.ClassFile.FieldType.array Jvm.ClassFile.FieldType.byte)), Jvm.Cond.code ({ cls := "java/util/Arrays", name := "copyOfRangeByte", desc := "([BII)[B" } : Jvm.MethodName) jdk_65_method_133_code (5 : Nat) (Option.some (Jvm.ClassFile.FieldType.array Jvm.ClassFile.FieldType.byte)), Jvm.Cond.code ({ cls := "java/util/Arrays", name := "checkLength", desc := "(II)V" } : Jvm.MethodName) jdk_65_method_131_code (2 : Nat) (Option.none : Option Jvm.ClassFile.FieldType), Jvm.Cond.code ({ cls := "java/lang/Math", name := "min", desc := "(II)I" } : Jvm.MethodName) jdk_29_method_69_code (2 : Nat) (Option.some Jvm.ClassFile.FieldType.int), Jvm.Cond.code ({ cls := "java/lang/String", name := "length", desc := "()I" } : Jvm.MethodName) jdk_42_method_54_code (1 : Nat) (Option.some Jvm.ClassFile.FieldType.int), Jvm.Cond.code ({ cls := "java/lang/String", name := "coder", desc := "()B" } : Jvm.MethodName) jdk_42_method_152_code (1 : Nat) (Option.some Jvm.ClassFile.FieldType.byte), Jvm.Cond.code ({ cls := "com/example/loomwright/loomwright/rule/XmlElementAppendTextPinLaw", name := "at", desc := "(Ljava/lang/String;I[CIII)Z" } : Jvm.MethodName) method_3_code (7 : Nat) (Option.some Jvm.ClassFile.FieldType.boolean), Jvm.Cond.code ({ cls := "java/lang/String", name := "charAt", desc := "(I)C" } : Jvm.MethodName) jdk_42_method_56_code (2 : Nat) (Option.some Jvm.ClassFile.FieldType.char), Jvm.Cond.code ({ cls := "java/lang/String", name := "isLatin1", desc := "()Z" } : Jvm.MethodName) jdk_42_method_154_code (1 : Nat) (Option.some Jvm.ClassFile.FieldType.boolean), Jvm.Cond.code ({ cls := "java/lang/StringLatin1", name := "charAt", desc := "([BI)C" } : Jvm.MethodName) jdk_43_method_2_code (2 : Nat) (Option.some Jvm.ClassFile.FieldType.char), Jvm.Cond.code ({ cls := "java/lang/String", name := "checkIndex", desc := "(II)V" } : Jvm.MethodName) jdk_42_method_155_code (2 : Nat) (Option.none : Option Jvm.ClassFile.FieldType), Jvm.Cond.code ({ cls := "jdk/internal/util/Preconditions", name := "checkIndex", desc := "(IILjava/util/function/BiFunction;)I" } : Jvm.MethodName) jdk_41_method_11_code (3 : Nat) (Option.some Jvm.ClassFile.FieldType.int), Jvm.Cond.code ({ cls := "java/lang/AbstractStringBuilder", name := "inflate", desc := "()V" } : Jvm.MethodName) jdk_68_method_11_code (2 : Nat) (Option.none : Option Jvm.ClassFile.FieldType), Jvm.Cond.code ({ cls := "java/lang/StringUTF16", name := "newBytesFor", desc := "(I)[B" } : Jvm.MethodName) jdk_52_method_2_code (1 : Nat) (Option.some (Jvm.ClassFile.FieldType.array Jvm.ClassFile.FieldType.byte)), Jvm.Cond.code ({ cls := "java/lang/StringUTF16", name := "newBytesLength", desc := "(I)I" } : Jvm.MethodName) jdk_52_method_3_code (1 : Nat) (Option.some Jvm.ClassFile.FieldType.int), Jvm.Cond.code ({ cls := "java/lang/StringLatin1", name := "inflate", desc := "([BI[BII)V" } : Jvm.MethodName) jdk_43_method_50_code (5 : Nat) (Option.none : Option Jvm.ClassFile.FieldType), Jvm.Cond.code ({ cls := "java/lang/StringUTF16", name := "inflate", desc := "([BI[BII)V" } : Jvm.MethodName) jdk_52_method_86_code (6 : Nat) (Option.none : Option Jvm.ClassFile.FieldType), Jvm.Cond.code ({ cls := "java/lang/StringUTF16", name := "checkBoundsOffCount", desc := "(II[B)V" } : Jvm.MethodName) jdk_52_method_94_code (3 : Nat) (Option.none : Option Jvm.ClassFile.FieldType), Jvm.Cond.code ({ cls := "java/lang/StringUTF16", name := "length", desc := "([B)I" } : Jvm.MethodName) jdk_52_method_6_code (1 : Nat) (Option.some Jvm.ClassFile.FieldType.int), Jvm.Cond.code ({ cls := "java/lang/String", name := "checkBoundsOffCount", desc := "(III)I" } : Jvm.MethodName) jdk_42_method_157_code (3 : Nat) (Option.some Jvm.ClassFile.FieldType.int), Jvm.Cond.code ({ cls := "jdk/internal/util/Preconditions", name := "checkFromIndexSize", desc := "(IIILjava/util/function/BiFunction;)I" } : Jvm.MethodName) jdk_41_method_13_code (4 : Nat) (Option.some Jvm.ClassFile.FieldType.int), Jvm.Cond.code ({ cls := "java/lang/StringUTF16", name := "putCharsSB", desc := "([BI[CII)V" } : Jvm.MethodName) jdk_52_method_72_code (5 : Nat) (Option.none : Option Jvm.ClassFile.FieldType), Jvm.Cond.code ({ cls := "java/lang/StringUTF16", name := "checkBoundsBeginEnd", desc := "(II[B)V" } : Jvm.MethodName) jdk_52_method_93_code (3 : Nat) (Option.none : Option Jvm.ClassFile.FieldType), Jvm.Cond.code ({ cls := "java/lang/String", name := "checkBoundsBeginEnd", desc := "(III)V" } : Jvm.MethodName) jdk_42_method_158_code (3 : Nat) (Option.none : Option Jvm.ClassFile.FieldType), Jvm.Cond.code ({ cls := "java/lang/StringUTF16", name := "putChars", desc := "([BI[CII)V" } : Jvm.MethodName) jdk_52_method_68_code (5 : Nat) (Option.none : Option Jvm.ClassFile.FieldType), Jvm.Cond.code ({ cls := "java/lang/StringUTF16", name := "putChar", desc := "([BII)V" } : Jvm.MethodName) jdk_52_method_4_code (3 : Nat) (Option.none : Option Jvm.ClassFile.FieldType), Jvm.Cond.code ({ cls := "java/lang/StringUTF16", name := "charAt", desc := "([BI)C" } : Jvm.MethodName) jdk_52_method_83_code (2 : Nat) (Option.some Jvm.ClassFile.FieldType.char), Jvm.Cond.code ({ cls := "java/lang/StringUTF16", name := "checkIndex", desc := "(I[B)V" } : Jvm.MethodName) jdk_52_method_91_code (2 : Nat) (Option.none : Option Jvm.ClassFile.FieldType), Jvm.Cond.code ({ cls := "java/lang/StringUTF16", name := "getChar", desc := "([BI)C" } : Jvm.MethodName) jdk_52_method_5_code (2 : Nat) (Option.some Jvm.ClassFile.FieldType.char)]
set_option maxRecDepth 65536 in
theorem codes_eq : words1.filter isCode = codes1 := rfl
theorem w_codes : ∀ c ∈ words1.filter isCode, c.before args0 about1 = true := by
  rw [codes_eq]
  intro c hc
  simp only [codes1, List.mem_cons, List.not_mem_nil, or_false] at hc
  rcases hc with rfl | rfl | rfl | rfl | rfl | rfl | rfl | rfl | rfl | rfl | rfl | rfl | rfl | rfl | rfl | rfl | rfl | rfl | rfl | rfl | rfl | rfl | rfl | rfl | rfl | rfl | rfl | rfl | rfl | rfl | rfl | rfl | rfl | rfl | rfl | rfl | rfl | rfl | rfl | rfl | rfl | rfl | rfl | rfl | rfl | rfl | rfl | rfl | rfl | rfl | rfl | rfl | rfl | rfl
  · exact w_c0
  · exact w_c1
  · exact w_c2
  · exact w_c3
  · exact w_c4
  · exact w_c5
  · exact w_c6
  · exact w_c7
  · exact w_c8
  · exact w_c9
  · exact w_c10
  · exact w_c11
  · exact w_c12
  · exact w_c13
  · exact w_c14
  · exact w_c15
  · exact w_c16
  · exact w_c17
  · exact w_c18
  · exact w_c19
  · exact w_c20
  · exact w_c21
  · exact w_c22
  · exact w_c23
  · exact w_c24
  · exact w_c25
  · exact w_c26
  · exact w_c27
  · exact w_c28
  · exact w_c29
  · exact w_c30
  · exact w_c31
  · exact w_c32
  · exact w_c33
  · exact w_c34
  · exact w_c35
  · exact w_c36
  · exact w_c37
  · exact w_c38
  · exact w_c39
  · exact w_c40
  · exact w_c41
  · exact w_c42
  · exact w_c43
  · exact w_c44
  · exact w_c45
  · exact w_c46
  · exact w_c47
  · exact w_c48
  · exact w_c49
  · exact w_c50
  · exact w_c51
  · exact w_c52
  · exact w_c53
set_option maxRecDepth 65536 in
theorem w_t1 : (words1.take 24).all (fun c => isCode c || c.before args0 about1) = true := by decide +kernel
set_option maxRecDepth 65536 in
theorem w_t2 : ((words1.drop 24).take 24).all (fun c => isCode c || c.before args0 about1) = true := by decide +kernel
set_option maxRecDepth 65536 in
theorem w_t3 : (((words1.drop 24).drop 24).take 24).all (fun c => isCode c || c.before args0 about1) = true := by decide +kernel
set_option maxRecDepth 65536 in
theorem w_t4 : ((((words1.drop 24).drop 24).drop 24).take 24).all (fun c => isCode c || c.before args0 about1) = true := by decide +kernel
set_option maxRecDepth 65536 in
theorem w_t5 : (((((words1.drop 24).drop 24).drop 24).drop 24).take 24).all (fun c => isCode c || c.before args0 about1) = true := by decide +kernel
set_option maxRecDepth 65536 in
theorem w_t6 : ((((((words1.drop 24).drop 24).drop 24).drop 24).drop 24).take 24).all (fun c => isCode c || c.before args0 about1) = true := by decide +kernel
set_option maxRecDepth 65536 in
theorem w_t7 : (((((((words1.drop 24).drop 24).drop 24).drop 24).drop 24).drop 24).take 24).all (fun c => isCode c || c.before args0 about1) = true := by decide +kernel
set_option maxRecDepth 65536 in
theorem w_t8 : ((((((((words1.drop 24).drop 24).drop 24).drop 24).drop 24).drop 24).drop 24).take 24).all (fun c => isCode c || c.before args0 about1) = true := by decide +kernel
set_option maxRecDepth 65536 in
theorem w_t9 : (((((((((words1.drop 24).drop 24).drop 24).drop 24).drop 24).drop 24).drop 24).drop 24).take 24).all (fun c => isCode c || c.before args0 about1) = true := by decide +kernel
set_option maxRecDepth 65536 in
theorem w_t10 : ((((((((((words1.drop 24).drop 24).drop 24).drop 24).drop 24).drop 24).drop 24).drop 24).drop 24).take 24).all (fun c => isCode c || c.before args0 about1) = true := by decide +kernel
set_option maxRecDepth 65536 in
theorem w_t11 : (((((((((((words1.drop 24).drop 24).drop 24).drop 24).drop 24).drop 24).drop 24).drop 24).drop 24).drop 24).take 24).all (fun c => isCode c || c.before args0 about1) = true := by decide +kernel
set_option maxRecDepth 65536 in
theorem w_t12 : (((((((((((words1.drop 24).drop 24).drop 24).drop 24).drop 24).drop 24).drop 24).drop 24).drop 24).drop 24).drop 24).all (fun c => isCode c || c.before args0 about1) = true := by decide +kernel
theorem w_tables : (allAtoms (Jvm.Cond.code x code maxLocals ret :: tables_1)).before args0 about1 = true := by
  rw [allAtoms_all]
  show words1.all (fun c => c.before args0 about1) = true
  refine all_split ?_ w_codes
  rw [← List.take_append_drop 24 words1, List.all_append, w_t1, ← List.take_append_drop 24 (words1.drop 24), List.all_append, w_t2, ← List.take_append_drop 24 ((words1.drop 24).drop 24), List.all_append, w_t3, ← List.take_append_drop 24 (((words1.drop 24).drop 24).drop 24), List.all_append, w_t4, ← List.take_append_drop 24 ((((words1.drop 24).drop 24).drop 24).drop 24), List.all_append, w_t5, ← List.take_append_drop 24 (((((words1.drop 24).drop 24).drop 24).drop 24).drop 24), List.all_append, w_t6, ← List.take_append_drop 24 ((((((words1.drop 24).drop 24).drop 24).drop 24).drop 24).drop 24), List.all_append, w_t7, ← List.take_append_drop 24 (((((((words1.drop 24).drop 24).drop 24).drop 24).drop 24).drop 24).drop 24), List.all_append, w_t8, ← List.take_append_drop 24 ((((((((words1.drop 24).drop 24).drop 24).drop 24).drop 24).drop 24).drop 24).drop 24), List.all_append, w_t9, ← List.take_append_drop 24 (((((((((words1.drop 24).drop 24).drop 24).drop 24).drop 24).drop 24).drop 24).drop 24).drop 24), List.all_append, w_t10, ← List.take_append_drop 24 ((((((((((words1.drop 24).drop 24).drop 24).drop 24).drop 24).drop 24).drop 24).drop 24).drop 24).drop 24), List.all_append, w_t11, w_t12]
  rfl
set_option maxRecDepth 65536 in
theorem w_rest : rest_1_c.before args0 about1 = true := by decide +kernel
set_option maxRecDepth 65536 in
theorem w_case : (Jvm.Cond.and given_1 narrow_1).before args0 about1 = true := by decide +kernel
theorem w_applies : (headSpec (Jvm.Cond.code x code maxLocals ret :: tables_1) room_1).applies x e0.platform about1 = true :=
  (Spec.applies_iff w_frames).mpr ⟨w_running, w_runnable, w_alone, w_named, w_hears, w_ripe, w_room, w_tables⟩
theorem atStart : AtStart classFile x code maxLocals ret World_1 tables_1 room_1 Calls_1 rest_1 Pre_1 launch0 p0 e0 about1 theMethod args0 below0 :=
  ⟨lists_1, trivial, launch0.admits_env _ _ _, launch0.least_env, fairChoices_fair.cas, fairChoices_fair.clock, w_frames, w_args, w_heap, w_applies, trivial, w_rest, w_case⟩
end start1
theorem witness_1 : WitnessClaimed_1 := ⟨start1.p0, start1.e0, start1.about1, start1.theMethod, start1.args0, start1.below0, start1.atStart⟩
end Jvm.Pilot.@@N@@
