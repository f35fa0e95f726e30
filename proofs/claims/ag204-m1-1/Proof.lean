import JvmDerived
import JvmDerived.Pilot.@@N@@Statement
import JvmDerived.Pilot.@@N@@Code
set_option linter.unusedVariables false
set_option linter.unusedSimpArgs false
namespace Own
open Jvm Jvm.ClassFile Sem Op Lib Jvm.Stand Jvm.Free Jvm.LawKit Jvm.RoadKit
def Fin (p : Program) (e : Env) (below : List Frame) (G : State) (Q : Outcome → State → Prop) : Prop :=
  ∃ s₂ o, Steps p.tables e below G s₂ ∧ s₂.status = .running ∧ Ended s₂ below o ∧ Q o s₂
def Post (s : State) (K : Option Value → Heap → List Loc → Prop) (cc ss : Nat) (o : Outcome) (U : State) : Prop :=
  ∃ v L, o = .returned v ∧ K v U.heap L ∧ FrameEnd s o U L cc ss
theorem go {p : Program} {e : Env} {below : List Frame} {G G' : State} {Q : Outcome → State → Prop} (h : ∀ t, Steps p.tables e below G' t → Steps p.tables e below G t) (k : Fin p e below G' Q) : Fin p e below G Q := by
  obtain ⟨s₂, o, h1, h2⟩ := k
  exact ⟨s₂, o, h _ h1, h2⟩
theorem start {p : Program} {e : Env} {below : List Frame} {T : State} {g g' : JFrame} {Q : Outcome → State → Prop} (q : g = g') (k : Fin p e below (T.setTop g') Q) : Fin p e below (T.setTop g) Q := q ▸ k
theorem clamp_lt {j z : Int32} {n : Nat} (hj : ¬ j < 0 ∧ j < z) (hz : z.toNatClampNeg = n) : j.toNatClampNeg < n := by
  subst hz
  have h1 := hj.1; have h2 := hj.2
  rw [Int32.lt_iff_toInt_lt] at h1 h2
  have h0 : (0 : Int32).toInt = 0 := by decide
  rw [h0] at h1
  show j.toInt.toNat < z.toInt.toNat
  omega
section A
variable {p : Program} {l : Launch} {e : Env} {R : Room} {s : State} {m : MethodId} {args : Array Value} {below : List Frame} {meth : Method} {c : Code} {T : State} {locs : List Loc} {cells slots : Nat}
theorem retAny (X : Stand p l e R s m args below meth c T locs cells slots) {v : Option Value} (hlk : meth.locks = false) (hv : meth.sig.returnType = none → v = none) {g : JFrame}
    (hstep : ∀ fs, (∀ (f : JFrame) (acts : List Action), f.method = m → f.locked = none → f.entered = [] → (doReturn e (T.setTop f) acts v).1 = T.setFrames fs) → Steps p.tables e below (T.setTop g) (T.setFrames fs))
    {K : Option Value → Heap → List Loc → Prop} {cc ss : Nat} (hc : cells ≤ cc) (hs : slots ≤ ss) (hk : K v T.heap locs) : Fin p e below (T.setTop g) (Post s K cc ss) := by
  obtain ⟨fs, hr, hrun, hended, hW, hsame⟩ := X.leave (v := v) hv hlk
  exact ⟨_, _, hstep fs hr, hrun, hended, _, _, rfl, hk, ⟨_, rfl⟩, hW, hsame.mono hc hs⟩
theorem retI (X : Stand p l e R s m args below meth c T locs cells slots) (hx : p.tables.exec = Jvm.exec) (hlk : meth.locks = false) (hret : meth.sig.returnType = some .int) {pc : Nat} {Ls : Array Slot} {z : Int32} {rest : List Value} (hd : decode c.code pc = .ok (.ireturn, 1))
    {K : Option Value → Heap → List Loc → Prop} {cc ss : Nat} (hc : cells ≤ cc) (hs : slots ≤ ss) (hk : K (some (.int z)) T.heap locs) : Fin p e below (T.setTop (mkF m pc Ls (.int z :: rest))) (Post s K cc ss) := by
  refine retAny X (v := some (.int z)) hlk (fun h => by rw [hret] at h; cases h) (fun fs hl => ?_) hc hs hk
  have hm' : T.vm.method? m = some meth := X.method'
  have hn : narrow .int (.int z) = .int z := rfl
  show Steps p.tables e below (T.setTop { method := m, pc := pc, locals := Ls, stack := _ :: rest, locked := none }) _
  jvm_step X.here [X.here.top, hx, hd, hm', hret, hn]
  first | (intro acts; rw [hl _ acts rfl rfl rfl]) | rw [hl _ _ rfl rfl rfl]
  exact Steps.refl _
theorem retN (X : Stand p l e R s m args below meth c T locs cells slots) (hx : p.tables.exec = Jvm.exec) (hlk : meth.locks = false) {t : FieldType} (hret : meth.sig.returnType = some t) (ht : t = .boolean ∨ t = .byte ∨ t = .char ∨ t = .short) {pc : Nat} {Ls : Array Slot} {z : Int32} {rest : List Value} (hd : decode c.code pc = .ok (.ireturn, 1))
    {K : Option Value → Heap → List Loc → Prop} {cc ss : Nat} (hc : cells ≤ cc) (hs : slots ≤ ss) (hk : K (some (.int (nar t z))) T.heap locs) : Fin p e below (T.setTop (mkF m pc Ls (.int z :: rest))) (Post s K cc ss) :=
  retAny X (v := some (.int (nar t z))) hlk (fun h => by rw [hret] at h; cases h) (fun fs hl => RoadKit.retN X hx hret ht hd hl) hc hs hk
theorem retJ (X : Stand p l e R s m args below meth c T locs cells slots) (hx : p.tables.exec = Jvm.exec) (hlk : meth.locks = false) (hret : meth.sig.returnType = some .long) {pc : Nat} {Ls : Array Slot} {z : Int64} {rest : List Value} (hd : decode c.code pc = .ok (.lreturn, 1))
    {K : Option Value → Heap → List Loc → Prop} {cc ss : Nat} (hc : cells ≤ cc) (hs : slots ≤ ss) (hk : K (some (.long z)) T.heap locs) : Fin p e below (T.setTop (mkF m pc Ls (.long z :: rest))) (Post s K cc ss) := by
  refine retAny X (v := some (.long z)) hlk (fun h => by rw [hret] at h; cases h) (fun fs hl => ?_) hc hs hk
  have hm' : T.vm.method? m = some meth := X.method'
  show Steps p.tables e below (T.setTop { method := m, pc := pc, locals := Ls, stack := _ :: rest, locked := none }) _
  jvm_step X.here [X.here.top, hx, hd, hm', hret, narrow]
  first | (intro acts; rw [hl _ acts rfl rfl rfl]) | rw [hl _ _ rfl rfl rfl]
  exact Steps.refl _
theorem retV (X : Stand p l e R s m args below meth c T locs cells slots) (hx : p.tables.exec = Jvm.exec) (hlk : meth.locks = false) (hret : meth.sig.returnType = none) {pc : Nat} {Ls : Array Slot} (hd : decode c.code pc = .ok (.return_, 1))
    {K : Option Value → Heap → List Loc → Prop} {cc ss : Nat} (hc : cells ≤ cc) (hs : slots ≤ ss) (hk : K none T.heap locs) : Fin p e below (T.setTop (mkF m pc Ls [])) (Post s K cc ss) :=
  retAny X (v := none) hlk (fun _ => rfl) (fun fs hl => X.returnOut hx hret hd hl) hc hs hk
theorem cS {Z : State} {a0 : Array Value} {h : Heap} (X : Stand p l e R s m args below meth c T locs cells slots) (hx : p.tables.exec = Jvm.exec) (hZ : Z.Warmed39 s.vm) {own : String} {index : Nat} {y : MethodName} {bytes : ByteArray} {maxL : Nat} {ret : Option FieldType} {rm : Room} {as' : Array Value} {Q : Option Value → Heap → List Loc → Prop}
    (hown : s.vm.findClass own = some m.cls) (w1 : (Cond.methodLink own index y).before a0 Z = true) (w2 : (Cond.static y).before a0 Z = true) (w3 : (Cond.initialized y.cls).before a0 Z = true) (w4 : (Cond.code y bytes maxL ret).before a0 Z = true)
    (hy : y.cls ≠ "java/lang/invoke/MethodHandle" ∧ y.cls ≠ "java/lang/invoke/VarHandle")
    (hM : MetFree l y (head1 [Cond.code y bytes maxL ret] rm) (fun a U => a = as' ∧ Z.Warmed39 U.vm ∧ U.heap = h) (fun _ _ _ _ _ => True) (fun _ U o U' => ∃ v L, o = .returned v ∧ Q v U'.heap L ∧ FrameEnd U o U' L rm.cells rm.slots))
    (hf : rm.frames + 1 ≤ R.frames) {W : Nat} (hl : W + (maxL + 11) + rm.locals ≤ R.locals) {pc : Nat} {ls : Array Slot} {argsL rest : List Value} (hsize : ls.size = c.maxLocals) (hlen : ∀ sig, parseMethodDescriptor y.desc = some sig → argsL.length = sig.parameters.length)
    (has : argsL.toArray = as') (hW : (rest.map fun v => v.category).sum ≤ W) (hd : decode c.code pc = .ok (.invokestatic index, 3)) (eT : T.heap = h) (hcc : cells + rm.cells ≤ R.cells) (hss : slots + rm.slots ≤ R.slots) {P : Outcome → State → Prop}
    (k : ∀ T' L v, Stand p l e R s m args below meth c T' (locs ++ L) (cells + rm.cells) (slots + rm.slots) → Q v T'.heap L → Fin p e below (T'.setTop (mkF m (pc + 3) ls (v.toList ++ rest))) P) :
    Fin p e below (T.setTop (mkF m pc ls (argsL.reverse ++ rest))) P := by
  obtain ⟨v, _, ⟨T', L', k', n'⟩, -, X', ⟨L, hQ, e1, e2, e3⟩, st⟩ := Jvm.LawKit.callS X hx (y := y) hown (mvT hZ w1) (mvT hZ w2) (mvT hZ w3) (mvT hZ w4) hy (backOf (W := W) hM hZ w4 w3 hf hl) (g := mkF m pc ls (argsL.reverse ++ rest)) rfl hsize (argsL := argsL) (rest := rest) hlen rfl
    (by show 2 * 0 + _ ≤ _; omega) hd (fun _ _ => ⟨has, eT, hcc, hss⟩)
  dsimp only [Pt.U, Pt.locs, Pt.cells, Pt.slots] at X' e1 e2 e3 st hQ
  subst e1 e2 e3
  exact go st (k T' L v X' hQ)
theorem cI {Z : State} {a0 : Array Value} {h : Heap} (X : Stand p l e R s m args below meth c T locs cells slots) (hx : p.tables.exec = Jvm.exec) (hZ : Z.Warmed39 s.vm) {own : String} {index : Nat} {y : MethodName} {bytes : ByteArray} {maxL : Nat} {rm : Room} {as' : Array Value} {Q : Option Value → Heap → List Loc → Prop}
    (hy1 : y.name = "<init>") (hown : s.vm.findClass own = some m.cls) (w1 : (Cond.methodLink own index y).before a0 Z = true) (w2 : (Cond.instanceMethod y).before a0 Z = true) (w3 : (Cond.initialized y.cls).before a0 Z = true) (w4 : (Cond.code y bytes maxL none).before a0 Z = true)
    (hy : y.cls ≠ "java/lang/invoke/MethodHandle" ∧ y.cls ≠ "java/lang/invoke/VarHandle")
    (hM : MetFree l y (head1 [Cond.code y bytes maxL none] rm) (fun a U => a = as' ∧ Z.Warmed39 U.vm ∧ U.heap = h) (fun _ _ _ _ _ => True) (fun _ U o U' => ∃ v L, o = .returned v ∧ Q v U'.heap L ∧ FrameEnd U o U' L rm.cells rm.slots))
    (hf : rm.frames + 1 ≤ R.frames) {W : Nat} (hl : W + (maxL + 11) + rm.locals ≤ R.locals) {pc : Nat} {ls : Array Slot} {a : Addr} {argsL rest : List Value} (hsize : ls.size = c.maxLocals) (hlen : ∀ sig, parseMethodDescriptor y.desc = some sig → argsL.length = sig.parameters.length)
    (has : (Value.ref a :: argsL).toArray = as') (hW : (rest.map fun v => v.category).sum ≤ W) (hd : decode c.code pc = .ok (.invokespecial index, 3)) (eT : T.heap = h) (hcc : cells + rm.cells ≤ R.cells) (hss : slots + rm.slots ≤ R.slots) {P : Outcome → State → Prop}
    (k : ∀ T' L v, Stand p l e R s m args below meth c T' (locs ++ L) (cells + rm.cells) (slots + rm.slots) → Q v T'.heap L → Fin p e below (T'.setTop (mkF m (pc + 3) ls (v.toList ++ rest))) P) :
    Fin p e below (T.setTop (mkF m pc ls (argsL.reverse ++ .ref a :: rest))) P := by
  obtain ⟨v, _, ⟨T', L', k', n'⟩, -, X', ⟨L, hQ, e1, e2, e3⟩, st⟩ := X.specialBack hx (y := y) hy1 hown (mvT hZ w1) (mvT hZ w2) (mvT hZ w4) hy (backOf (W := W) hM hZ w4 w3 hf hl) (g := mkF m pc ls (argsL.reverse ++ .ref a :: rest)) rfl hsize (Steps.refl _) (a := a) (argsL := argsL) (rest := rest) hlen rfl
    (by show 2 * 0 + _ ≤ _; omega) hd (fun _ _ => ⟨has, eT, hcc, hss⟩)
  dsimp only [Pt.U, Pt.locs, Pt.cells, Pt.slots] at X' e1 e2 e3 st hQ
  subst e1 e2 e3
  exact go (fun t kt => st.trans kt) (k T' L v X' hQ)
theorem cV {Z : State} {a0 : Array Value} {h : Heap} (X : Stand p l e R s m args below meth c T locs cells slots) (hx : p.tables.exec = Jvm.exec) (hZ : Z.Warmed39 s.vm) {own C : String} {index : Nat} {y z : MethodName} {bytes : ByteArray} {maxL : Nat} {ret : Option FieldType} {rm : Room} {as' : Array Value} {Q : Option Value → Heap → List Loc → Prop}
    (hown : s.vm.findClass own = some m.cls) (w1 : (Cond.methodLink own index y).before a0 Z = true) (w2 : (Cond.declares y).before a0 Z = true) (hnf : NotFace s y) (w5 : (Cond.selects C y z).before a0 Z = true) (w6 : (Cond.instanceMethod z).before a0 Z = true) (w3 : (Cond.initialized z.cls).before a0 Z = true) (w4 : (Cond.code z bytes maxL ret).before a0 Z = true)
    (hy : y.cls ≠ "java/lang/invoke/MethodHandle" ∧ y.cls ≠ "java/lang/invoke/VarHandle")
    (hM : MetFree l z (head1 [Cond.code z bytes maxL ret] rm) (fun a U => a = as' ∧ Z.Warmed39 U.vm ∧ U.heap = h) (fun _ _ _ _ _ => True) (fun _ U o U' => ∃ v L, o = .returned v ∧ Q v U'.heap L ∧ FrameEnd U o U' L rm.cells rm.slots))
    (hf : rm.frames + 1 ≤ R.frames) {W : Nat} (hl : W + (maxL + 11) + rm.locals ≤ R.locals) {pc : Nat} {ls : Array Slot} {a : Addr} {argsL rest : List Value} (E : Exa Z h a C) (hsize : ls.size = c.maxLocals) (hlen : ∀ sig, parseMethodDescriptor y.desc = some sig → argsL.length = sig.parameters.length)
    (has : (Value.ref a :: argsL).toArray = as') (hW : (rest.map fun v => v.category).sum ≤ W) (hd : decode c.code pc = .ok (.invokevirtual index, 3)) (eT : T.heap = h) (hcc : cells + rm.cells ≤ R.cells) (hss : slots + rm.slots ≤ R.slots) {P : Outcome → State → Prop}
    (k : ∀ T' L v, Stand p l e R s m args below meth c T' (locs ++ L) (cells + rm.cells) (slots + rm.slots) → Q v T'.heap L → Fin p e below (T'.setTop (mkF m (pc + 3) ls (v.toList ++ rest))) P) :
    Fin p e below (T.setTop (mkF m pc ls (argsL.reverse ++ .ref a :: rest))) P := by
  obtain ⟨cq, kq, qa, qb, qc⟩ := isOf hZ eT E
  obtain ⟨v, _, ⟨T', L', k', n'⟩, -, X', ⟨L, hQ, e1, e2, e3⟩, st⟩ := X.virtualBack hx (y := y) (z := z) hown (mvT hZ w1) (mvT hZ w2) hnf (mvT hZ w5) (mvT hZ w6) hy (backOf (W := W) hM hZ w4 w3 hf hl) qa qc (g := mkF m pc ls (argsL.reverse ++ .ref a :: rest)) rfl hsize (Steps.refl _) (argsL := argsL) (rest := rest) hlen rfl
    (by show 2 * 0 + _ ≤ _; omega) hd (fun _ _ => ⟨has, eT, hcc, hss⟩)
  dsimp only [Pt.U, Pt.locs, Pt.cells, Pt.slots] at X' e1 e2 e3 st hQ
  subst e1 e2 e3
  exact go (fun t kt => st.trans kt) (k T' L v X' hQ)
theorem newA {Z : State} {a0 : Array Value} {h : Heap} (X : Stand p l e R s m args below meth c T locs cells slots) (hx : p.tables.exec = Jvm.exec) (hZ : Z.Warmed39 s.vm) {aty : ArrayType} (w : (Cond.arrayClass (newarray.typeOf aty)).before a0 Z = true) (eT : T.heap = h)
    {pc : Nat} {ls : Array Slot} {n : Int32} {rest : List Value} (hd : decode c.code pc = .ok (.newarray aty, 2)) (hn : ¬ n < 0) (cap : Nat) (hcap : n.toNatClampNeg ≤ cap) (hb : cap * 8 ≤ 536870912) (hc : cells + 1 ≤ R.cells) (hl : slots + cap ≤ R.slots) {P : Outcome → State → Prop}
    (k : ∀ T' h' b kA, Stand p l e R s m args below meth c T' locs (cells + 1) (slots + cap) → T'.heap = h' → Ext h h' → b = h.size → Arv Z h' b kA (newarray.typeOf aty) n [] (defaultValue (newarray.typeOf aty)) → Fin p e below (T'.setTop (mkF m (pc + 2) ls (.ref b :: rest))) P) :
    Fin p e below (T.setTop (mkF m pc ls (.int n :: rest))) P := by
  obtain ⟨T', h', kA, X', e', E', A', st⟩ := newP X hx hZ w eT (g := mkF m pc ls (.int n :: rest)) rfl hd rfl hn hcap hb hc hl
  exact go st (k T' h' _ kA X' e' E' rfl (Arv.new A' hn))
theorem stI {Z : State} {h : Heap} {a : Addr} {kA : ClassId} {z : Int32} {vs : List Value} {dv : Value} (X : Stand p l e R s m args below meth c T locs cells slots) (hx : p.tables.exec = Jvm.exec) (hZ : Z.Warmed39 s.vm) (eT : T.heap = h) (V : Arv Z h a kA .int z vs dv)
    {pc : Nat} {ls : Array Slot} {j x : Int32} {rest : List Value} (hd : decode c.code pc = .ok (.iastore, 1)) (hj : ¬ j < 0 ∧ j < z) (i : Nat) (hi : j.toNatClampNeg = i) (hlen : i < vs.length) {P : Outcome → State → Prop}
    (k : ∀ T' h', Stand p l e R s m args below meth c T' (locs ++ [⟨a, j.toNatClampNeg⟩]) cells slots → T'.heap = h' → Wr h h' a j.toNatClampNeg (.int x) → Arv Z h' a kA .int z (vs.set i (.int x)) dv → Fin p e below (T'.setTop (mkF m (pc + 1) ls rest)) P) :
    Fin p e below (T.setTop (mkF m pc ls (.int x :: .int j :: .ref a :: rest))) P := by
  obtain ⟨cl, Ar, q, S, N, H, G⟩ := V
  obtain ⟨T', h', X', e', W', st⟩ := RoadKit.stI X hx hZ eT Ar (j := j) (inb_of S hj) (g := mkF m pc ls (.int x :: .int j :: .ref a :: rest)) rfl rfl hd
  exact go st (k T' h' X' e' W' (Arv.set Ar q S N H G rfl W' i hi hlen))
theorem stJ {Z : State} {h : Heap} {a : Addr} {kA : ClassId} {z : Int32} {vs : List Value} {dv : Value} (X : Stand p l e R s m args below meth c T locs cells slots) (hx : p.tables.exec = Jvm.exec) (hZ : Z.Warmed39 s.vm) (eT : T.heap = h) (V : Arv Z h a kA .long z vs dv)
    {pc : Nat} {ls : Array Slot} {j : Int32} {x : Int64} {rest : List Value} (hd : decode c.code pc = .ok (.lastore, 1)) (hj : ¬ j < 0 ∧ j < z) (i : Nat) (hi : j.toNatClampNeg = i) (hlen : i < vs.length) {P : Outcome → State → Prop}
    (k : ∀ T' h', Stand p l e R s m args below meth c T' (locs ++ [⟨a, j.toNatClampNeg⟩]) cells slots → T'.heap = h' → Wr h h' a j.toNatClampNeg (.long x) → Arv Z h' a kA .long z (vs.set i (.long x)) dv → Fin p e below (T'.setTop (mkF m (pc + 1) ls rest)) P) :
    Fin p e below (T.setTop (mkF m pc ls (.long x :: .int j :: .ref a :: rest))) P := by
  obtain ⟨cl, Ar, q, S, N, H, G⟩ := V
  obtain ⟨T', h', X', e', W', st⟩ := RoadKit.stJ X hx hZ eT Ar (j := j) (inb_of S hj) (g := mkF m pc ls (.long x :: .int j :: .ref a :: rest)) rfl rfl hd
  exact go st (k T' h' X' e' W' (Arv.set Ar q S N H G rfl W' i hi hlen))
theorem stB {Z : State} {h : Heap} {a : Addr} {kA : ClassId} {z : Int32} {vs : List Value} {dv : Value} (X : Stand p l e R s m args below meth c T locs cells slots) (hx : p.tables.exec = Jvm.exec) (hZ : Z.Warmed39 s.vm) (eT : T.heap = h) (V : Arv Z h a kA .byte z vs dv)
    {pc : Nat} {ls : Array Slot} {j x : Int32} {rest : List Value} (hd : decode c.code pc = .ok (.bastore, 1)) (hj : ¬ j < 0 ∧ j < z) (i : Nat) (hi : j.toNatClampNeg = i) (hlen : i < vs.length) {P : Outcome → State → Prop}
    (k : ∀ T' h', Stand p l e R s m args below meth c T' (locs ++ [⟨a, j.toNatClampNeg⟩]) cells slots → T'.heap = h' → Wr h h' a j.toNatClampNeg (.int (nar .byte x)) → Arv Z h' a kA .byte z (vs.set i (.int (nar .byte x))) dv → Fin p e below (T'.setTop (mkF m (pc + 1) ls rest)) P) :
    Fin p e below (T.setTop (mkF m pc ls (.int x :: .int j :: .ref a :: rest))) P := by
  obtain ⟨cl, Ar, q, S, N, H, G⟩ := V
  obtain ⟨T', h', X', e', W', st⟩ := RoadKit.stB X hx hZ eT Ar (j := j) (inb_of S hj) (g := mkF m pc ls (.int x :: .int j :: .ref a :: rest)) rfl rfl hd
  exact go st (k T' h' X' e' W' (Arv.set Ar q S N H G (fits_nar_byte _) W' i hi hlen))
theorem stC {Z : State} {h : Heap} {a : Addr} {kA : ClassId} {z : Int32} {vs : List Value} {dv : Value} (X : Stand p l e R s m args below meth c T locs cells slots) (hx : p.tables.exec = Jvm.exec) (hZ : Z.Warmed39 s.vm) (eT : T.heap = h) (V : Arv Z h a kA .char z vs dv)
    {pc : Nat} {ls : Array Slot} {j x : Int32} {rest : List Value} (hd : decode c.code pc = .ok (.castore, 1)) (hj : ¬ j < 0 ∧ j < z) (i : Nat) (hi : j.toNatClampNeg = i) (hlen : i < vs.length) {P : Outcome → State → Prop}
    (k : ∀ T' h', Stand p l e R s m args below meth c T' (locs ++ [⟨a, j.toNatClampNeg⟩]) cells slots → T'.heap = h' → Wr h h' a j.toNatClampNeg (.int (nar .char x)) → Arv Z h' a kA .char z (vs.set i (.int (nar .char x))) dv → Fin p e below (T'.setTop (mkF m (pc + 1) ls rest)) P) :
    Fin p e below (T.setTop (mkF m pc ls (.int x :: .int j :: .ref a :: rest))) P := by
  obtain ⟨cl, Ar, q, S, N, H, G⟩ := V
  obtain ⟨T', h', X', e', W', st⟩ := RoadKit.stC X hx hZ eT Ar (j := j) (inb_of S hj) (g := mkF m pc ls (.int x :: .int j :: .ref a :: rest)) rfl rfl hd
  exact go st (k T' h' X' e' W' (Arv.set Ar q S N H G (fits_nar_char _) W' i hi hlen))
theorem alen {Z : State} {h : Heap} {a : Addr} {kA : ClassId} {ty : FieldType} {z : Int32} {vs : List Value} {dv : Value} (X : Stand p l e R s m args below meth c T locs cells slots) (hx : p.tables.exec = Jvm.exec) (hZ : Z.Warmed39 s.vm) (eT : T.heap = h) (V : Arv Z h a kA ty z vs dv)
    {pc : Nat} {ls : Array Slot} {rest : List Value} (hd : decode c.code pc = .ok (.arraylength, 1)) {P : Outcome → State → Prop} (k : Fin p e below (T.setTop (mkF m (pc + 1) ls (.int z :: rest))) P) :
    Fin p e below (T.setTop (mkF m pc ls (.ref a :: rest))) P := by
  obtain ⟨cl, Ar, q, S, N, H, G⟩ := V
  refine go (fun t kt => X.arraylength hx (by rw [eT]; exact Ar.1) (State.isArrayOf_alike hZ.alike Ar.2.1) (g := mkF m pc ls (.ref a :: rest)) rfl rfl hd t kt) ?_
  rw [len_of S N]
  exact k
theorem arv_at {Z : State} {h : Heap} {a : Addr} {kA : ClassId} {ty : FieldType} {z : Int32} {vs : List Value} {dv : Value} (V : Arv Z h a kA ty z vs dv) {j : Int32} (hj : ¬ j < 0 ∧ j < z) :
    ∃ cl, Arr Z h a cl ty ∧ ¬ (j < 0 ∨ cl.slots.size ≤ j.toNatClampNeg) ∧ cl.slots[j.toNatClampNeg]? = some (vs.getD j.toNatClampNeg dv) ∧ fits ty (vs.getD j.toNatClampNeg dv) = true := by
  obtain ⟨cl, Ar, q, S, N, H, G⟩ := V
  have hin := inb_of S hj
  have hlt : j.toNatClampNeg < cl.slots.size := Nat.lt_of_not_le fun q => hin (Or.inr q)
  exact ⟨cl, Ar, hin, H _ hlt, G _ hlt⟩
theorem ldI {Z : State} {h : Heap} {a : Addr} {kA : ClassId} {z : Int32} {vs : List Value} {dv : Value} (X : Stand p l e R s m args below meth c T locs cells slots) (hx : p.tables.exec = Jvm.exec) (hZ : Z.Warmed39 s.vm) (eT : T.heap = h) (V : Arv Z h a kA .int z vs dv)
    {pc : Nat} {ls : Array Slot} {j : Int32} {rest : List Value} (hd : decode c.code pc = .ok (.iaload, 1)) (hj : ¬ j < 0 ∧ j < z) {P : Outcome → State → Prop} (k : ∀ x, vs.getD j.toNatClampNeg dv = .int x → Fin p e below (T.setTop (mkF m (pc + 1) ls (.int x :: rest))) P) :
    Fin p e below (T.setTop (mkF m pc ls (.int j :: .ref a :: rest))) P := by
  obtain ⟨cl, Ar, hin, hat, hf⟩ := arv_at V hj
  obtain ⟨x, hx'⟩ := fit_I hf (Or.inl rfl)
  refine go (fun t kt => X.iaload hx (j := j) (v := .int x) (by rw [eT]; exact Ar.1) (State.isArrayOf_alike hZ.alike Ar.2.1) Ar.2.2 hin (by rw [hat, hx']) (g := mkF m pc ls (.int j :: .ref a :: rest)) rfl rfl hd t kt) (k x hx')
theorem ldJ {Z : State} {h : Heap} {a : Addr} {kA : ClassId} {z : Int32} {vs : List Value} {dv : Value} (X : Stand p l e R s m args below meth c T locs cells slots) (hx : p.tables.exec = Jvm.exec) (hZ : Z.Warmed39 s.vm) (eT : T.heap = h) (V : Arv Z h a kA .long z vs dv)
    {pc : Nat} {ls : Array Slot} {j : Int32} {rest : List Value} (hd : decode c.code pc = .ok (.laload, 1)) (hj : ¬ j < 0 ∧ j < z) {P : Outcome → State → Prop} (k : ∀ x, vs.getD j.toNatClampNeg dv = .long x → Fin p e below (T.setTop (mkF m (pc + 1) ls (.long x :: rest))) P) :
    Fin p e below (T.setTop (mkF m pc ls (.int j :: .ref a :: rest))) P := by
  obtain ⟨cl, Ar, hin, hat, hf⟩ := arv_at V hj
  obtain ⟨x, hx'⟩ := fit_J hf
  refine go (fun t kt => X.laload hx (j := j) (v := .long x) (by rw [eT]; exact Ar.1) (State.isArrayOf_alike hZ.alike Ar.2.1) Ar.2.2 hin (by rw [hat, hx']) (g := mkF m pc ls (.int j :: .ref a :: rest)) rfl rfl hd t kt) (k x hx')
theorem ldB {Z : State} {h : Heap} {a : Addr} {kA : ClassId} {z : Int32} {vs : List Value} {dv : Value} (X : Stand p l e R s m args below meth c T locs cells slots) (hx : p.tables.exec = Jvm.exec) (hZ : Z.Warmed39 s.vm) (eT : T.heap = h) (V : Arv Z h a kA .byte z vs dv)
    {pc : Nat} {ls : Array Slot} {j : Int32} {rest : List Value} (hd : decode c.code pc = .ok (.baload, 1)) (hj : ¬ j < 0 ∧ j < z) {P : Outcome → State → Prop} (k : ∀ x, vs.getD j.toNatClampNeg dv = .int x → Fin p e below (T.setTop (mkF m (pc + 1) ls (.int x :: rest))) P) :
    Fin p e below (T.setTop (mkF m pc ls (.int j :: .ref a :: rest))) P := by
  obtain ⟨cl, Ar, hin, hat, hf⟩ := arv_at V hj
  obtain ⟨x, hx'⟩ := fit_I hf (Or.inr (Or.inr (Or.inl rfl)))
  refine go (fun t kt => X.baloadBytes hx (j := j) (v := .int x) (by rw [eT]; exact Ar.1) (State.isArrayOf_alike hZ.alike Ar.2.1) Ar.2.2 hin (by rw [hat, hx']) (g := mkF m pc ls (.int j :: .ref a :: rest)) rfl rfl hd t kt) (k x hx')
theorem ldC {Z : State} {h : Heap} {a : Addr} {kA : ClassId} {z : Int32} {vs : List Value} {dv : Value} (X : Stand p l e R s m args below meth c T locs cells slots) (hx : p.tables.exec = Jvm.exec) (hZ : Z.Warmed39 s.vm) (eT : T.heap = h) (V : Arv Z h a kA .char z vs dv)
    {pc : Nat} {ls : Array Slot} {j : Int32} {rest : List Value} (hd : decode c.code pc = .ok (.caload, 1)) (hj : ¬ j < 0 ∧ j < z) {P : Outcome → State → Prop} (k : ∀ x, vs.getD j.toNatClampNeg dv = .int x → Fin p e below (T.setTop (mkF m (pc + 1) ls (.int x :: rest))) P) :
    Fin p e below (T.setTop (mkF m pc ls (.int j :: .ref a :: rest))) P := by
  obtain ⟨cl, Ar, hin, hat, hf⟩ := arv_at V hj
  obtain ⟨x, hx'⟩ := fit_I hf (Or.inr (Or.inr (Or.inr (Or.inl rfl))))
  refine go (fun t kt => X.caload hx (j := j) (v := .int x) (by rw [eT]; exact Ar.1) (State.isArrayOf_alike hZ.alike Ar.2.1) Ar.2.2 hin (by rw [hat, hx']) (g := mkF m pc ls (.int j :: .ref a :: rest)) rfl rfl hd t kt) (k x hx')
theorem ldR {Z : State} {h : Heap} {a : Addr} {kA : ClassId} {ty : FieldType} {z : Int32} {vs : List Value} {dv : Value} (X : Stand p l e R s m args below meth c T locs cells slots) (hx : p.tables.exec = Jvm.exec) (hZ : Z.Warmed39 s.vm) (eT : T.heap = h) (V : Arv Z h a kA ty z vs dv) (ht : ty.isReference = true)
    {pc : Nat} {ls : Array Slot} {j : Int32} {rest : List Value} (hd : decode c.code pc = .ok (.aaload, 1)) (hj : ¬ j < 0 ∧ j < z) {w : Value} (hv : vs.getD j.toNatClampNeg dv = w) {P : Outcome → State → Prop} (k : Fin p e below (T.setTop (mkF m (pc + 1) ls (w :: rest))) P) :
    Fin p e below (T.setTop (mkF m pc ls (.int j :: .ref a :: rest))) P := by
  obtain ⟨cl, Ar, hin, hat, hf⟩ := arv_at V hj
  exact go (fun t kt => X.aaload hx (j := j) (v := w) (by rw [eT]; exact Ar.1) (State.isArrayOf_alike hZ.alike Ar.2.1) ht Ar.2.2 hin (by rw [hat, hv]) (g := mkF m pc ls (.int j :: .ref a :: rest)) rfl rfl hd t kt) k
theorem ldBc {Z : State} {h : Heap} {a : Addr} {cl : Cell} (X : Stand p l e R s m args below meth c T locs cells slots) (hx : p.tables.exec = Jvm.exec) (hZ : Z.Warmed39 s.vm) (eT : T.heap = h) (A : Arr Z h a cl .byte)
    {pc : Nat} {ls : Array Slot} {j x : Int32} {rest : List Value} (hd : decode c.code pc = .ok (.baload, 1)) (hin : ¬ (j < 0 ∨ cl.slots.size ≤ j.toNatClampNeg)) (hv : cl.slots[j.toNatClampNeg]? = some (.int x)) {P : Outcome → State → Prop} (k : Fin p e below (T.setTop (mkF m (pc + 1) ls (.int x :: rest))) P) :
    Fin p e below (T.setTop (mkF m pc ls (.int j :: .ref a :: rest))) P :=
  go (fun t kt => X.baloadBytes hx (j := j) (v := .int x) (by rw [eT]; exact A.1) (State.isArrayOf_alike hZ.alike A.2.1) A.2.2 hin hv (g := mkF m pc ls (.int j :: .ref a :: rest)) rfl rfl hd t kt) k
theorem alenC {Z : State} {h : Heap} {a : Addr} {cl : Cell} {ty : FieldType} {z : Int32} (X : Stand p l e R s m args below meth c T locs cells slots) (hx : p.tables.exec = Jvm.exec) (hZ : Z.Warmed39 s.vm) (eT : T.heap = h) (A : Arr Z h a cl ty) (hz : cl.slots.size.toInt32 = z)
    {pc : Nat} {ls : Array Slot} {rest : List Value} (hd : decode c.code pc = .ok (.arraylength, 1)) {P : Outcome → State → Prop} (k : Fin p e below (T.setTop (mkF m (pc + 1) ls (.int z :: rest))) P) :
    Fin p e below (T.setTop (mkF m pc ls (.ref a :: rest))) P := by
  refine go (fun t kt => X.arraylength hx (by rw [eT]; exact A.1) (State.isArrayOf_alike hZ.alike A.2.1) (g := mkF m pc ls (.ref a :: rest)) rfl rfl hd t kt) ?_
  rw [hz]
  exact k
theorem retR (X : Stand p l e R s m args below meth c T locs cells slots) (hx : p.tables.exec = Jvm.exec) (hlk : meth.locks = false) {t : FieldType} (hret : meth.sig.returnType = some t) (ht : t.isReference = true) {pc : Nat} {Ls : Array Slot} {z : Value} (hz : z.isRef = true) {rest : List Value} (hd : decode c.code pc = .ok (.areturn, 1))
    {K : Option Value → Heap → List Loc → Prop} {cc ss : Nat} (hc : cells ≤ cc) (hs : slots ≤ ss) (hk : K (some z) T.heap locs) : Fin p e below (T.setTop (mkF m pc Ls (z :: rest))) (Post s K cc ss) := by
  refine retAny X (v := some z) hlk (fun h => by rw [hret] at h; cases h) (fun fs hl => ?_) hc hs hk
  have hm' : T.vm.method? m = some meth := X.method'
  show Steps p.tables e below (T.setTop { method := m, pc := pc, locals := Ls, stack := _ :: rest, locked := none }) _
  jvm_step X.here [X.here.top, hx, hd, hm', hret, ht, hz]
  first | (intro acts; rw [hl _ acts rfl rfl rfl]) | rw [hl _ _ rfl rfl rfl]
  exact Steps.refl _
theorem cP {Z : State} {a0 : Array Value} {h : Heap} (X : Stand p l e R s m args below meth c T locs cells slots) (hx : p.tables.exec = Jvm.exec) (hZ : Z.Warmed39 s.vm) {own C : String} {index : Nat} {y y' : MethodName} {bytes : ByteArray} {maxL : Nat} {ret : Option FieldType} {rm : Room} {as' : Array Value} {Q : Option Value → Heap → List Loc → Prop}
    (hown : s.vm.findClass own = some m.cls) (w1 : (Cond.methodLink own index y).before a0 Z = true) (w2 : (Cond.instanceMethod y).before a0 Z = true) (w5 : (Cond.privateMethod y).before a0 Z = true) (w7 : (Cond.selects C y' y').before a0 Z = true) (hcl : y'.cls = y.cls) (w3 : (Cond.initialized y.cls).before a0 Z = true) (w4 : (Cond.code y bytes maxL ret).before a0 Z = true)
    (hy : y.cls ≠ "java/lang/invoke/MethodHandle" ∧ y.cls ≠ "java/lang/invoke/VarHandle")
    (hM : MetFree l y (head1 [Cond.code y bytes maxL ret] rm) (fun a U => a = as' ∧ Z.Warmed39 U.vm ∧ U.heap = h) (fun _ _ _ _ _ => True) (fun _ U o U' => ∃ v L, o = .returned v ∧ Q v U'.heap L ∧ FrameEnd U o U' L rm.cells rm.slots))
    (hf : rm.frames + 1 ≤ R.frames) {W : Nat} (hl : W + (maxL + 11) + rm.locals ≤ R.locals) {pc : Nat} {ls : Array Slot} {a : Addr} {argsL rest : List Value} {C' : String} (E : Exa Z h a C') (hsize : ls.size = c.maxLocals) (hlen : ∀ sig, parseMethodDescriptor y.desc = some sig → argsL.length = sig.parameters.length)
    (has : (Value.ref a :: argsL).toArray = as') (hW : (rest.map fun v => v.category).sum ≤ W) (hd : decode c.code pc = .ok (.invokevirtual index, 3)) (eT : T.heap = h) (hcc : cells + rm.cells ≤ R.cells) (hss : slots + rm.slots ≤ R.slots) {P : Outcome → State → Prop}
    (k : ∀ T' L v, Stand p l e R s m args below meth c T' (locs ++ L) (cells + rm.cells) (slots + rm.slots) → Q v T'.heap L → Fin p e below (T'.setTop (mkF m (pc + 3) ls (v.toList ++ rest))) P) :
    Fin p e below (T.setTop (mkF m pc ls (argsL.reverse ++ .ref a :: rest))) P := by
  have hpr : s.PrivateAt y := Cond.privateMethod_at (mvP hZ w5 (args := #[]))
  have hsel : (Cond.selects y.cls y y).before args s = true := by
    obtain ⟨c2, r2, m2, q1, q2, q3, q4, kP, hkP, hkPi⟩ := Cond.selects_spec (mvT (args := args) hZ w7)
    exact selects_self_of_private (hcl ▸ findClass_of_methodNamed q3) hkP hkPi hpr (mvT hZ w2) hy
  obtain ⟨cq, q1, q2⟩ := E.cell
  obtain ⟨v, _, ⟨T', L', k', n'⟩, -, X', ⟨L, hQ, e1, e2, e3⟩, st⟩ := X.privateBack hx (y := y) hown (mvT hZ w1) (mvT hZ w2) hsel hpr (mvT hZ w4) hy (backOf (W := W) hM hZ w4 w3 hf hl) (g := mkF m pc ls (argsL.reverse ++ .ref a :: rest)) rfl hsize (Steps.refl _) (a := a) (by rw [eT]; exact q1) q2 (argsL := argsL) (rest := rest) hlen rfl
    (by show 2 * 0 + _ ≤ _; omega) hd (fun _ _ => ⟨has, eT, hcc, hss⟩)
  dsimp only [Pt.U, Pt.locs, Pt.cells, Pt.slots] at X' e1 e2 e3 st hQ
  subst e1 e2 e3
  exact go (fun t kt => st.trans kt) (k T' L v X' hQ)
end A
section B
variable {args : Array Value} {first s : State} {o : Option Outcome} {idx : List Nat} {a b : Term}
theorem eqR {y : Addr} (h : (Cond.eq a b).value args first o s idx = some true) (hb : b.eval args first o idx s = some (.ref y)) : a.eval args first o idx s = some (.ref y) := by
  obtain ⟨x', y', h1, h2, k1, k2⟩ := cmp_v (Or.inl h)
  cases hb.symm.trans h2
  have hx : x'.isRef = true := k2.2
  rw [h1, gotT (eq_R h1 hb hx rfl) h]
theorem eqI {y : Int32} (h : (Cond.eq a b).value args first o s idx = some true) (hb : b.eval args first o idx s = some (.int y)) : a.eval args first o idx s = some (.int y) := by
  obtain ⟨x', y', h1, h2, k1, k2⟩ := cmp_v (Or.inl h)
  cases hb.symm.trans h2
  obtain ⟨z, rfl⟩ := k2
  rw [h1, gotT (Cond.eq_ints h1 hb) h]
theorem len_at {y : Int32} (h : (Term.length a).eval args first o idx s = some (.int y)) : ∃ (x : Addr) (cell : Cell), a.eval args first o idx s = some (.ref x) ∧ s.arrayAt? x = some cell ∧ cell.slots.size < 2 ^ 31 ∧ cell.slots.size.toInt32 = y := by
  obtain ⟨b, cell, h1, h2, h3, h4⟩ := Jvm.Lib.length_spec h
  exact ⟨b, cell, h1, h2, h3, (Value.int.inj h4).symm⟩
end B
end Own
namespace Jvm.Pilot.@@N@@
open Jvm Jvm.ClassFile Sem Op Lib Jvm.Free Jvm.Stand Jvm.LawKit Jvm.RoadKit Bundle Jvm.Pilot.@@N@@.Jvm.D
def F_hl (d : Int32) : Int32 := if d < (10 : Int32) then (48 : Int32) + d else (97 : Int32) + (d - (10 : Int32))
def F_sl (c : Int32) : Int32 := if c = (34 : Int32) then 34 else if c = (92 : Int32) then 92 else if c = (8 : Int32) then 98 else if c = (12 : Int32) then 102 else if c = (10 : Int32) then 110 else if c = (13 : Int32) then 114 else if c = (9 : Int32) then 116 else 0
def F_tab (c : Int32) : Int32 := if c = (34 : Int32) then 34 else if c = (92 : Int32) then 92 else if c = (8 : Int32) then 98 else if c = (12 : Int32) then 102 else if c = (10 : Int32) then 110 else if c = (13 : Int32) then 114 else if c = (9 : Int32) then 116 else if c < (32 : Int32) then 117 else 0
def F_key (c : Int32) : Int32 := if c < (128 : Int32) then F_tab c else (0 : Int32)
def F_esc (c len y1 y2 y3 y4 y5 : Int32) : Int32 := if F_key c = (0 : Int32) then 0 else if F_key c = (117 : Int32) then (if len = (6 : Int32) then (if y1 = (117 : Int32) then (if y2 = (48 : Int32) then (if y3 = (48 : Int32) then (if y4 = F_hl (c >>> ((4 : Int32) &&& 31)) then (if y5 = F_hl (c &&& (15 : Int32)) then 1 else 0) else 0) else 0) else 0) else 0) else 0) else (if len = (2 : Int32) then (if y1 = F_key c then 1 else 0) else 0)
def F_want (c len y1 y2 y3 y4 y5 : Int32) : Int32 := if F_sl c = (0 : Int32) then (if c < (32 : Int32) then (if len = (6 : Int32) then (if y1 = (117 : Int32) then (if y2 = (48 : Int32) then (if y3 = (48 : Int32) then (if y4 = (F_hl (c >>> ((4 : Int32) &&& 31))).toInt8.toInt32 then (if y5 = (F_hl (c &&& (15 : Int32))).toInt8.toInt32 then 1 else 0) else 0) else 0) else 0) else 0) else 0) else 0) else (if len = (2 : Int32) then (if y1 = (F_sl c).toInt8.toInt32 then 1 else 0) else 0)
def own_row (c : Int32) : Bool := (if F_sl c = 0 then (if c < 32 then decide (F_tab c = 117) && decide ((F_hl (c >>> ((4 : Int32) &&& 31))).toInt8.toInt32 = F_hl (c >>> ((4 : Int32) &&& 31))) && decide ((F_hl (c &&& (15 : Int32))).toInt8.toInt32 = F_hl (c &&& (15 : Int32))) else decide (F_tab c = 0)) else decide (F_tab c = (F_sl c).toInt8.toInt32) && decide (¬ F_tab c = 0) && decide (¬ F_tab c = 117))
theorem own_rows : ∀ k : Nat, k < 128 → own_row (Int32.ofNat k) = true := by decide +kernel
theorem own_nat (z : Int32) (h1 : 0 ≤ z.toInt) (h2 : z.toInt < 128) : ∃ k : Nat, k < 128 ∧ z = Int32.ofNat k := by
  refine ⟨z.toInt.toNat, by omega, ?_⟩
  apply Int32.toInt_inj.mp
  rw [Int32.toInt_ofNat_small (by omega)]
  omega
theorem own_esc (c len y1 y2 y3 y4 y5 : Int32) (h1 : 0 ≤ c.toInt) : F_esc c len y1 y2 y3 y4 y5 = F_want c len y1 y2 y3 y4 y5 := by
  by_cases h2 : c < (128 : Int32)
  · obtain ⟨k, hk, ek⟩ := own_nat c h1 (by rw [Int32.lt_iff_toInt_lt] at h2; exact h2)
    have hr := own_rows k hk
    rw [← ek] at hr
    have e : F_key c = F_tab c := by simp only [F_key, h2, if_true]
    unfold F_esc F_want
    rw [e]
    unfold own_row at hr
    by_cases q1 : F_sl c = 0
    · by_cases q2 : c < 32
      · simp only [q1, q2, if_true, Bool.and_eq_true, decide_eq_true_eq] at hr
        obtain ⟨⟨r1, r2⟩, r3⟩ := hr
        rw [r1, r2, r3]
        simp only [q1, q2, if_true, show ¬ ((117 : Int32) = 0) by decide, if_false]
      · simp only [q1, q2, if_true, if_false, decide_eq_true_eq] at hr
        simp only [q1, q2, hr, if_true, if_false]
    · simp only [q1, if_false, Bool.and_eq_true, decide_eq_true_eq] at hr
      obtain ⟨⟨r1, r2⟩, r3⟩ := hr
      simp only [q1, r2, r3, if_false]
      rw [r1]
  · have e : F_key c = 0 := by simp only [F_key, h2, if_false]
    have q : ¬ c < 32 := by
      rw [Int32.lt_iff_toInt_lt] at h2 ⊢
      rw [show (128 : Int32).toInt = 128 by decide] at h2
      rw [show (32 : Int32).toInt = 32 by decide]
      omega
    have ne : ∀ d : Int32, d.toInt < 128 → ¬ c = d := by
      intro d hd hq
      subst hq
      rw [Int32.lt_iff_toInt_lt] at h2
      exact h2 hd
    have s : F_sl c = 0 := by
      simp only [F_sl, ne 34 (by decide), ne 92 (by decide), ne 8 (by decide), ne 12 (by decide), ne 10 (by decide), ne 13 (by decide), ne 9 (by decide), if_false]
    simp only [F_esc, F_want, e, s, q, if_true, if_false]
theorem own_at (at_ k : Int32) (kk : Int) (hk : k.toInt = kk) (h : 0 ≤ at_.toInt ∧ at_.toInt ≤ 3) (h0 : 0 ≤ kk) (h5 : kk ≤ 5) : ¬ (at_ + k) < 0 ∧ (at_ + k) < (12 : Int32) := by
  have h1 := c_iadd at_ k
  have b1 := (at_ + k).toInt_lt; have b2 := (at_ + k).le_toInt
  rw [Int32.lt_iff_toInt_lt, Int32.lt_iff_toInt_lt, show (0 : Int32).toInt = 0 by decide, show (12 : Int32).toInt = 12 by decide]
  rw [hk] at h1
  omega
theorem own_at0 (at_ : Int32) (h : 0 ≤ at_.toInt ∧ at_.toInt ≤ 3) : ¬ at_ < 0 ∧ at_ < (12 : Int32) := by
  rw [Int32.lt_iff_toInt_lt, Int32.lt_iff_toInt_lt, show (0 : Int32).toInt = 0 by decide, show (12 : Int32).toInt = 12 by decide]
  omega
theorem own_pos (at_ u : Int32) (h : 0 ≤ at_.toInt ∧ at_.toInt ≤ 3) (hu : 0 ≤ u.toInt ∧ u.toInt ≤ 7) : ¬ ((at_ + (1 : Int32)) + u) < 0 ∧ ((at_ + (1 : Int32)) + u) < (12 : Int32) := by
  have h1 := c_iadd at_ 1
  have h2 := c_iadd (at_ + 1) u
  have b1 := (at_ + 1).toInt_lt; have b2 := (at_ + 1).le_toInt
  have b3 := (at_ + 1 + u).toInt_lt; have b4 := (at_ + 1 + u).le_toInt
  rw [Int32.lt_iff_toInt_lt, Int32.lt_iff_toInt_lt, show (0 : Int32).toInt = 0 by decide, show (12 : Int32).toInt = 12 by decide]
  rw [show (1 : Int32).toInt = 1 by decide] at h1
  omega
theorem own_m3 (x : Int32) : 0 ≤ (x &&& (3 : Int32)).toInt ∧ (x &&& (3 : Int32)).toInt ≤ 3 := c_and x 3 (by decide)
theorem own_m7 (x : Int32) : 0 ≤ (x &&& (7 : Int32)).toInt ∧ (x &&& (7 : Int32)).toInt ≤ 7 := c_and x 7 (by decide)
theorem own_i2c (c : Int32) (h : 0 ≤ c.toInt ∧ c.toInt ≤ 65535) : c.toUInt32.toUInt16.toUInt32.toInt32 = c := by
  have h1 := c_i2c c
  apply Int32.toInt_inj.mp
  omega
theorem d1_0 : decode method_5_code 0 = .ok (.iload_n 0, 1) := by decide +kernel
theorem d1_1 : decode method_5_code 1 = .ok (.bipush 10, 2) := by decide +kernel
theorem d1_3 : decode method_5_code 3 = .ok (.if_icmp .ge 10, 3) := by decide +kernel
theorem d1_6 : decode method_5_code 6 = .ok (.bipush 48, 2) := by decide +kernel
theorem d1_8 : decode method_5_code 8 = .ok (.iload_n 0, 1) := by decide +kernel
theorem d1_9 : decode method_5_code 9 = .ok (.iadd, 1) := by decide +kernel
theorem d1_10 : decode method_5_code 10 = .ok (.goto 10, 3) := by decide +kernel
theorem d1_13 : decode method_5_code 13 = .ok (.bipush 97, 2) := by decide +kernel
theorem d1_15 : decode method_5_code 15 = .ok (.iload_n 0, 1) := by decide +kernel
theorem d1_16 : decode method_5_code 16 = .ok (.bipush 10, 2) := by decide +kernel
theorem d1_18 : decode method_5_code 18 = .ok (.isub, 1) := by decide +kernel
theorem d1_19 : decode method_5_code 19 = .ok (.iadd, 1) := by decide +kernel
theorem d1_20 : decode method_5_code 20 = .ok (.ireturn, 1) := by decide +kernel
theorem pn_1 : plainName "com/example/changelane/changelane/JsonWriterEscapesPinLaw" = true := by first | (simp [plainName, overriddenIn]; done) | decide +kernel
theorem ef_1 (m : MethodId) (p1 : Int32) : entryFrame m #[(.int p1)] 1 = mkF m 0 #[.val (.int p1)] [] := by first | (simp [entryFrame, mkF, argsToLocals, Value.category]; done) | rfl
def Q1 (Z : State) (p1 : Int32)  (h0 : Heap) (n0 : Nat) : Option Value → Heap → List Loc → Prop := fun v h L => v = some (.int (F_hl p1)) ∧ Fr n0 L ∧ h = h0
set_option maxRecDepth 65536 in
set_option maxHeartbeats 40000000 in
theorem rm1 (l : Launch) (Z : State) (a0 : Array Value) (hw : ∀ d ∈ tables_1, d.before a0 Z = true) (ws : List Jvm.Cond) (p1 : Int32)  (h0 : Heap) (n0 : Nat) (Z0 : n0 ≤ h0.size)  :
    MetFree l (⟨"com/example/changelane/changelane/JsonWriterEscapesPinLaw", "hexLower", "(I)I"⟩ : MethodName) (head1 (Jvm.Cond.code (⟨"com/example/changelane/changelane/JsonWriterEscapesPinLaw", "hexLower", "(I)I"⟩ : MethodName) method_5_code 1 (some .int) :: ws) ({ frames := 0, cells := 0, slots := 0, locals := 0 } : Room)) (fun a U => a = #[(.int p1)] ∧ Z.Warmed39 U.vm ∧ U.heap = h0) (fun _ _ _ _ _ => True) (fun _ U o U' => ∃ v L, o = .returned v ∧ (Q1 Z p1 h0 n0) v U'.heap L ∧ FrameEnd U o U' L ({ frames := 0, cells := 0, slots := 0, locals := 0 } : Room).cells ({ frames := 0, cells := 0, slots := 0, locals := 0 } : Room).slots) := by
  refine MetFree.of_bodySF (plainFor_of_name pn_1) hisR ?_
  intro p e s m args below meth c s₁ Bd hml0 hP hK
  obtain ⟨rfl, hZ, hh⟩ := hP
  have hx := Bd.exec
  have hby := Bd.bytes
  have hml : c.maxLocals = 1 := hml0
  have hown : s.vm.findClass "com/example/changelane/changelane/JsonWriterEscapesPinLaw" = some m.cls := findClass_of_methodNamed Bd.named
  have hnm := (name_of_methodNamed Bd.named Bd.method).1
  have X0 : Stand p l e ({ frames := 0, cells := 0, slots := 0, locals := 0 } : Room) s m #[(.int p1)] below meth c s₁ [] 0 0 := Stand.of_body Bd
  have e0 : s₁.heap = h0 := by rw [← hh, Bd.state]; rfl
  have N0 := Fr.nil n0
  show Own.Fin p e below _ (Own.Post s (Q1 Z p1 h0 n0) ({ frames := 0, cells := 0, slots := 0, locals := 0 } : Room).cells ({ frames := 0, cells := 0, slots := 0, locals := 0 } : Room).slots)
  refine Own.start (ef_1 m p1) ?_
  show Own.Fin p e below (s₁.setTop (mkF m 0 #[.val (.int p1)] [])) _
  refine Own.go (fun t k => XS.iloadN X0.here hx rfl (hb hby d1_0) rfl k) ?_
  show Own.Fin p e below (s₁.setTop (mkF m 1 #[.val (.int p1)] [(.int p1)])) _
  refine Own.go (fun t k => XS.bipush X0.here hx rfl (hb hby d1_1) k) ?_
  show Own.Fin p e below (s₁.setTop (mkF m 3 #[.val (.int p1)] [(.int (10 : Int32)), (.int p1)])) _
  by_cases hc3_0 : p1 < (10 : Int32)
  · skip
    refine Own.go (fun t k => XS.icmpNo X0.here hx rfl (hb hby d1_3) rfl (tlt hc3_0).2.1 k) ?_
    show Own.Fin p e below (s₁.setTop (mkF m 6 #[.val (.int p1)] [])) _
    refine Own.go (fun t k => XS.bipush X0.here hx rfl (hb hby d1_6) k) ?_
    show Own.Fin p e below (s₁.setTop (mkF m 8 #[.val (.int p1)] [(.int (48 : Int32))])) _
    refine Own.go (fun t k => XS.iloadN X0.here hx rfl (hb hby d1_8) rfl k) ?_
    show Own.Fin p e below (s₁.setTop (mkF m 9 #[.val (.int p1)] [(.int p1), (.int (48 : Int32))])) _
    refine Own.go (fun t k => XS.iadd X0.here hx rfl (hb hby d1_9) rfl k) ?_
    show Own.Fin p e below (s₁.setTop (mkF m 10 #[.val (.int p1)] [(.int ((48 : Int32) + p1))])) _
    refine Own.go (fun t k => XS.goto X0.here hx rfl (pc0 := 10) (pc' := 20) rfl (hb hby d1_10) (by decide) (by decide) k) ?_
    show Own.Fin p e below (s₁.setTop (mkF m 20 #[.val (.int p1)] [(.int ((48 : Int32) + p1))])) _
    refine Own.retI X0 hx Bd.notSynchronized Bd.returns (hb hby d1_20) (by decide) (by decide) ?_
    exact ⟨by rw [show F_hl p1 = ((48 : Int32) + p1) by rw [F_hl, if_pos hc3_0]], N0, e0⟩
  · skip
    refine Own.go (fun t k => XS.icmpYes X0.here hx rfl (pc0 := 3) (pc' := 13) rfl (hb hby d1_3) rfl (flt hc3_0).2.1 (by decide) (by decide) k) ?_
    show Own.Fin p e below (s₁.setTop (mkF m 13 #[.val (.int p1)] [])) _
    refine Own.go (fun t k => XS.bipush X0.here hx rfl (hb hby d1_13) k) ?_
    show Own.Fin p e below (s₁.setTop (mkF m 15 #[.val (.int p1)] [(.int (97 : Int32))])) _
    refine Own.go (fun t k => XS.iloadN X0.here hx rfl (hb hby d1_15) rfl k) ?_
    show Own.Fin p e below (s₁.setTop (mkF m 16 #[.val (.int p1)] [(.int p1), (.int (97 : Int32))])) _
    refine Own.go (fun t k => XS.bipush X0.here hx rfl (hb hby d1_16) k) ?_
    show Own.Fin p e below (s₁.setTop (mkF m 18 #[.val (.int p1)] [(.int (10 : Int32)), (.int p1), (.int (97 : Int32))])) _
    refine Own.go (fun t k => XS.isub X0.here hx rfl (hb hby d1_18) rfl k) ?_
    show Own.Fin p e below (s₁.setTop (mkF m 19 #[.val (.int p1)] [(.int (p1 - (10 : Int32))), (.int (97 : Int32))])) _
    refine Own.go (fun t k => XS.iadd X0.here hx rfl (hb hby d1_19) rfl k) ?_
    show Own.Fin p e below (s₁.setTop (mkF m 20 #[.val (.int p1)] [(.int ((97 : Int32) + (p1 - (10 : Int32))))])) _
    refine Own.retI X0 hx Bd.notSynchronized Bd.returns (hb hby d1_20) (by decide) (by decide) ?_
    exact ⟨by rw [show F_hl p1 = ((97 : Int32) + (p1 - (10 : Int32))) by rw [F_hl, if_neg hc3_0]], N0, e0⟩
theorem d3_0 : decode method_3_code 0 = .ok (.iload_n 0, 1) := by decide +kernel
theorem d3_1 : decode method_3_code 1 = .ok (.bipush 34, 2) := by decide +kernel
theorem d3_3 : decode method_3_code 3 = .ok (.if_icmp .ne 6, 3) := by decide +kernel
theorem d3_6 : decode method_3_code 6 = .ok (.bipush 34, 2) := by decide +kernel
theorem d3_8 : decode method_3_code 8 = .ok (.ireturn, 1) := by decide +kernel
theorem d3_9 : decode method_3_code 9 = .ok (.iload_n 0, 1) := by decide +kernel
theorem d3_10 : decode method_3_code 10 = .ok (.bipush 92, 2) := by decide +kernel
theorem d3_12 : decode method_3_code 12 = .ok (.if_icmp .ne 6, 3) := by decide +kernel
theorem d3_15 : decode method_3_code 15 = .ok (.bipush 92, 2) := by decide +kernel
theorem d3_17 : decode method_3_code 17 = .ok (.ireturn, 1) := by decide +kernel
theorem d3_18 : decode method_3_code 18 = .ok (.iload_n 0, 1) := by decide +kernel
theorem d3_19 : decode method_3_code 19 = .ok (.bipush 8, 2) := by decide +kernel
theorem d3_21 : decode method_3_code 21 = .ok (.if_icmp .ne 6, 3) := by decide +kernel
theorem d3_24 : decode method_3_code 24 = .ok (.bipush 98, 2) := by decide +kernel
theorem d3_26 : decode method_3_code 26 = .ok (.ireturn, 1) := by decide +kernel
theorem d3_27 : decode method_3_code 27 = .ok (.iload_n 0, 1) := by decide +kernel
theorem d3_28 : decode method_3_code 28 = .ok (.bipush 12, 2) := by decide +kernel
theorem d3_30 : decode method_3_code 30 = .ok (.if_icmp .ne 6, 3) := by decide +kernel
theorem d3_33 : decode method_3_code 33 = .ok (.bipush 102, 2) := by decide +kernel
theorem d3_35 : decode method_3_code 35 = .ok (.ireturn, 1) := by decide +kernel
theorem d3_36 : decode method_3_code 36 = .ok (.iload_n 0, 1) := by decide +kernel
theorem d3_37 : decode method_3_code 37 = .ok (.bipush 10, 2) := by decide +kernel
theorem d3_39 : decode method_3_code 39 = .ok (.if_icmp .ne 6, 3) := by decide +kernel
theorem d3_42 : decode method_3_code 42 = .ok (.bipush 110, 2) := by decide +kernel
theorem d3_44 : decode method_3_code 44 = .ok (.ireturn, 1) := by decide +kernel
theorem d3_45 : decode method_3_code 45 = .ok (.iload_n 0, 1) := by decide +kernel
theorem d3_46 : decode method_3_code 46 = .ok (.bipush 13, 2) := by decide +kernel
theorem d3_48 : decode method_3_code 48 = .ok (.if_icmp .ne 6, 3) := by decide +kernel
theorem d3_51 : decode method_3_code 51 = .ok (.bipush 114, 2) := by decide +kernel
theorem d3_53 : decode method_3_code 53 = .ok (.ireturn, 1) := by decide +kernel
theorem d3_54 : decode method_3_code 54 = .ok (.iload_n 0, 1) := by decide +kernel
theorem d3_55 : decode method_3_code 55 = .ok (.bipush 9, 2) := by decide +kernel
theorem d3_57 : decode method_3_code 57 = .ok (.if_icmp .ne 6, 3) := by decide +kernel
theorem d3_60 : decode method_3_code 60 = .ok (.bipush 116, 2) := by decide +kernel
theorem d3_62 : decode method_3_code 62 = .ok (.ireturn, 1) := by decide +kernel
theorem d3_63 : decode method_3_code 63 = .ok (.iconst 0, 1) := by decide +kernel
theorem d3_64 : decode method_3_code 64 = .ok (.ireturn, 1) := by decide +kernel
theorem pn_3 : plainName "com/example/changelane/changelane/JsonWriterEscapesPinLaw" = true := by first | (simp [plainName, overriddenIn]; done) | decide +kernel
theorem ef_3 (m : MethodId) (p1 : Int32) : entryFrame m #[(.int p1)] 1 = mkF m 0 #[.val (.int p1)] [] := by first | (simp [entryFrame, mkF, argsToLocals, Value.category]; done) | rfl
def Q3 (Z : State) (p1 : Int32)  (h0 : Heap) (n0 : Nat) : Option Value → Heap → List Loc → Prop := fun v h L => v = some (.int (F_sl p1)) ∧ Fr n0 L ∧ h = h0
set_option maxRecDepth 65536 in
set_option maxHeartbeats 40000000 in
theorem rm3 (l : Launch) (Z : State) (a0 : Array Value) (hw : ∀ d ∈ tables_1, d.before a0 Z = true) (ws : List Jvm.Cond) (p1 : Int32)  (h0 : Heap) (n0 : Nat) (Z0 : n0 ≤ h0.size)  :
    MetFree l (⟨"com/example/changelane/changelane/JsonWriterEscapesPinLaw", "shortLetter", "(I)I"⟩ : MethodName) (head1 (Jvm.Cond.code (⟨"com/example/changelane/changelane/JsonWriterEscapesPinLaw", "shortLetter", "(I)I"⟩ : MethodName) method_3_code 1 (some .int) :: ws) ({ frames := 0, cells := 0, slots := 0, locals := 0 } : Room)) (fun a U => a = #[(.int p1)] ∧ Z.Warmed39 U.vm ∧ U.heap = h0) (fun _ _ _ _ _ => True) (fun _ U o U' => ∃ v L, o = .returned v ∧ (Q3 Z p1 h0 n0) v U'.heap L ∧ FrameEnd U o U' L ({ frames := 0, cells := 0, slots := 0, locals := 0 } : Room).cells ({ frames := 0, cells := 0, slots := 0, locals := 0 } : Room).slots) := by
  refine MetFree.of_bodySF (plainFor_of_name pn_3) hisR ?_
  intro p e s m args below meth c s₁ Bd hml0 hP hK
  obtain ⟨rfl, hZ, hh⟩ := hP
  have hx := Bd.exec
  have hby := Bd.bytes
  have hml : c.maxLocals = 1 := hml0
  have hown : s.vm.findClass "com/example/changelane/changelane/JsonWriterEscapesPinLaw" = some m.cls := findClass_of_methodNamed Bd.named
  have hnm := (name_of_methodNamed Bd.named Bd.method).1
  have X0 : Stand p l e ({ frames := 0, cells := 0, slots := 0, locals := 0 } : Room) s m #[(.int p1)] below meth c s₁ [] 0 0 := Stand.of_body Bd
  have e0 : s₁.heap = h0 := by rw [← hh, Bd.state]; rfl
  have N0 := Fr.nil n0
  show Own.Fin p e below _ (Own.Post s (Q3 Z p1 h0 n0) ({ frames := 0, cells := 0, slots := 0, locals := 0 } : Room).cells ({ frames := 0, cells := 0, slots := 0, locals := 0 } : Room).slots)
  refine Own.start (ef_3 m p1) ?_
  show Own.Fin p e below (s₁.setTop (mkF m 0 #[.val (.int p1)] [])) _
  refine Own.go (fun t k => XS.iloadN X0.here hx rfl (hb hby d3_0) rfl k) ?_
  show Own.Fin p e below (s₁.setTop (mkF m 1 #[.val (.int p1)] [(.int p1)])) _
  refine Own.go (fun t k => XS.bipush X0.here hx rfl (hb hby d3_1) k) ?_
  show Own.Fin p e below (s₁.setTop (mkF m 3 #[.val (.int p1)] [(.int (34 : Int32)), (.int p1)])) _
  by_cases hc3_0 : p1 = (34 : Int32)
  · skip
    refine Own.go (fun t k => XS.icmpNo X0.here hx rfl (hb hby d3_3) rfl (teq hc3_0).2 k) ?_
    show Own.Fin p e below (s₁.setTop (mkF m 6 #[.val (.int p1)] [])) _
    refine Own.go (fun t k => XS.bipush X0.here hx rfl (hb hby d3_6) k) ?_
    show Own.Fin p e below (s₁.setTop (mkF m 8 #[.val (.int p1)] [(.int (34 : Int32))])) _
    refine Own.retI X0 hx Bd.notSynchronized Bd.returns (hb hby d3_8) (by decide) (by decide) ?_
    exact ⟨by rw [show F_sl p1 = (34 : Int32) by rw [F_sl, if_pos hc3_0]], N0, e0⟩
  · skip
    refine Own.go (fun t k => XS.icmpYes X0.here hx rfl (pc0 := 3) (pc' := 9) rfl (hb hby d3_3) rfl (feq hc3_0).2 (by decide) (by decide) k) ?_
    show Own.Fin p e below (s₁.setTop (mkF m 9 #[.val (.int p1)] [])) _
    refine Own.go (fun t k => XS.iloadN X0.here hx rfl (hb hby d3_9) rfl k) ?_
    show Own.Fin p e below (s₁.setTop (mkF m 10 #[.val (.int p1)] [(.int p1)])) _
    refine Own.go (fun t k => XS.bipush X0.here hx rfl (hb hby d3_10) k) ?_
    show Own.Fin p e below (s₁.setTop (mkF m 12 #[.val (.int p1)] [(.int (92 : Int32)), (.int p1)])) _
    by_cases hc12_1 : p1 = (92 : Int32)
    · skip
      refine Own.go (fun t k => XS.icmpNo X0.here hx rfl (hb hby d3_12) rfl (teq hc12_1).2 k) ?_
      show Own.Fin p e below (s₁.setTop (mkF m 15 #[.val (.int p1)] [])) _
      refine Own.go (fun t k => XS.bipush X0.here hx rfl (hb hby d3_15) k) ?_
      show Own.Fin p e below (s₁.setTop (mkF m 17 #[.val (.int p1)] [(.int (92 : Int32))])) _
      refine Own.retI X0 hx Bd.notSynchronized Bd.returns (hb hby d3_17) (by decide) (by decide) ?_
      exact ⟨by rw [show F_sl p1 = (92 : Int32) by rw [F_sl, if_neg hc3_0, if_pos hc12_1]], N0, e0⟩
    · skip
      refine Own.go (fun t k => XS.icmpYes X0.here hx rfl (pc0 := 12) (pc' := 18) rfl (hb hby d3_12) rfl (feq hc12_1).2 (by decide) (by decide) k) ?_
      show Own.Fin p e below (s₁.setTop (mkF m 18 #[.val (.int p1)] [])) _
      refine Own.go (fun t k => XS.iloadN X0.here hx rfl (hb hby d3_18) rfl k) ?_
      show Own.Fin p e below (s₁.setTop (mkF m 19 #[.val (.int p1)] [(.int p1)])) _
      refine Own.go (fun t k => XS.bipush X0.here hx rfl (hb hby d3_19) k) ?_
      show Own.Fin p e below (s₁.setTop (mkF m 21 #[.val (.int p1)] [(.int (8 : Int32)), (.int p1)])) _
      by_cases hc21_2 : p1 = (8 : Int32)
      · skip
        refine Own.go (fun t k => XS.icmpNo X0.here hx rfl (hb hby d3_21) rfl (teq hc21_2).2 k) ?_
        show Own.Fin p e below (s₁.setTop (mkF m 24 #[.val (.int p1)] [])) _
        refine Own.go (fun t k => XS.bipush X0.here hx rfl (hb hby d3_24) k) ?_
        show Own.Fin p e below (s₁.setTop (mkF m 26 #[.val (.int p1)] [(.int (98 : Int32))])) _
        refine Own.retI X0 hx Bd.notSynchronized Bd.returns (hb hby d3_26) (by decide) (by decide) ?_
        exact ⟨by rw [show F_sl p1 = (98 : Int32) by rw [F_sl, if_neg hc3_0, if_neg hc12_1, if_pos hc21_2]], N0, e0⟩
      · skip
        refine Own.go (fun t k => XS.icmpYes X0.here hx rfl (pc0 := 21) (pc' := 27) rfl (hb hby d3_21) rfl (feq hc21_2).2 (by decide) (by decide) k) ?_
        show Own.Fin p e below (s₁.setTop (mkF m 27 #[.val (.int p1)] [])) _
        refine Own.go (fun t k => XS.iloadN X0.here hx rfl (hb hby d3_27) rfl k) ?_
        show Own.Fin p e below (s₁.setTop (mkF m 28 #[.val (.int p1)] [(.int p1)])) _
        refine Own.go (fun t k => XS.bipush X0.here hx rfl (hb hby d3_28) k) ?_
        show Own.Fin p e below (s₁.setTop (mkF m 30 #[.val (.int p1)] [(.int (12 : Int32)), (.int p1)])) _
        by_cases hc30_3 : p1 = (12 : Int32)
        · skip
          refine Own.go (fun t k => XS.icmpNo X0.here hx rfl (hb hby d3_30) rfl (teq hc30_3).2 k) ?_
          show Own.Fin p e below (s₁.setTop (mkF m 33 #[.val (.int p1)] [])) _
          refine Own.go (fun t k => XS.bipush X0.here hx rfl (hb hby d3_33) k) ?_
          show Own.Fin p e below (s₁.setTop (mkF m 35 #[.val (.int p1)] [(.int (102 : Int32))])) _
          refine Own.retI X0 hx Bd.notSynchronized Bd.returns (hb hby d3_35) (by decide) (by decide) ?_
          exact ⟨by rw [show F_sl p1 = (102 : Int32) by rw [F_sl, if_neg hc3_0, if_neg hc12_1, if_neg hc21_2, if_pos hc30_3]], N0, e0⟩
        · skip
          refine Own.go (fun t k => XS.icmpYes X0.here hx rfl (pc0 := 30) (pc' := 36) rfl (hb hby d3_30) rfl (feq hc30_3).2 (by decide) (by decide) k) ?_
          show Own.Fin p e below (s₁.setTop (mkF m 36 #[.val (.int p1)] [])) _
          refine Own.go (fun t k => XS.iloadN X0.here hx rfl (hb hby d3_36) rfl k) ?_
          show Own.Fin p e below (s₁.setTop (mkF m 37 #[.val (.int p1)] [(.int p1)])) _
          refine Own.go (fun t k => XS.bipush X0.here hx rfl (hb hby d3_37) k) ?_
          show Own.Fin p e below (s₁.setTop (mkF m 39 #[.val (.int p1)] [(.int (10 : Int32)), (.int p1)])) _
          by_cases hc39_4 : p1 = (10 : Int32)
          · skip
            refine Own.go (fun t k => XS.icmpNo X0.here hx rfl (hb hby d3_39) rfl (teq hc39_4).2 k) ?_
            show Own.Fin p e below (s₁.setTop (mkF m 42 #[.val (.int p1)] [])) _
            refine Own.go (fun t k => XS.bipush X0.here hx rfl (hb hby d3_42) k) ?_
            show Own.Fin p e below (s₁.setTop (mkF m 44 #[.val (.int p1)] [(.int (110 : Int32))])) _
            refine Own.retI X0 hx Bd.notSynchronized Bd.returns (hb hby d3_44) (by decide) (by decide) ?_
            exact ⟨by rw [show F_sl p1 = (110 : Int32) by rw [F_sl, if_neg hc3_0, if_neg hc12_1, if_neg hc21_2, if_neg hc30_3, if_pos hc39_4]], N0, e0⟩
          · skip
            refine Own.go (fun t k => XS.icmpYes X0.here hx rfl (pc0 := 39) (pc' := 45) rfl (hb hby d3_39) rfl (feq hc39_4).2 (by decide) (by decide) k) ?_
            show Own.Fin p e below (s₁.setTop (mkF m 45 #[.val (.int p1)] [])) _
            refine Own.go (fun t k => XS.iloadN X0.here hx rfl (hb hby d3_45) rfl k) ?_
            show Own.Fin p e below (s₁.setTop (mkF m 46 #[.val (.int p1)] [(.int p1)])) _
            refine Own.go (fun t k => XS.bipush X0.here hx rfl (hb hby d3_46) k) ?_
            show Own.Fin p e below (s₁.setTop (mkF m 48 #[.val (.int p1)] [(.int (13 : Int32)), (.int p1)])) _
            by_cases hc48_5 : p1 = (13 : Int32)
            · skip
              refine Own.go (fun t k => XS.icmpNo X0.here hx rfl (hb hby d3_48) rfl (teq hc48_5).2 k) ?_
              show Own.Fin p e below (s₁.setTop (mkF m 51 #[.val (.int p1)] [])) _
              refine Own.go (fun t k => XS.bipush X0.here hx rfl (hb hby d3_51) k) ?_
              show Own.Fin p e below (s₁.setTop (mkF m 53 #[.val (.int p1)] [(.int (114 : Int32))])) _
              refine Own.retI X0 hx Bd.notSynchronized Bd.returns (hb hby d3_53) (by decide) (by decide) ?_
              exact ⟨by rw [show F_sl p1 = (114 : Int32) by rw [F_sl, if_neg hc3_0, if_neg hc12_1, if_neg hc21_2, if_neg hc30_3, if_neg hc39_4, if_pos hc48_5]], N0, e0⟩
            · skip
              refine Own.go (fun t k => XS.icmpYes X0.here hx rfl (pc0 := 48) (pc' := 54) rfl (hb hby d3_48) rfl (feq hc48_5).2 (by decide) (by decide) k) ?_
              show Own.Fin p e below (s₁.setTop (mkF m 54 #[.val (.int p1)] [])) _
              refine Own.go (fun t k => XS.iloadN X0.here hx rfl (hb hby d3_54) rfl k) ?_
              show Own.Fin p e below (s₁.setTop (mkF m 55 #[.val (.int p1)] [(.int p1)])) _
              refine Own.go (fun t k => XS.bipush X0.here hx rfl (hb hby d3_55) k) ?_
              show Own.Fin p e below (s₁.setTop (mkF m 57 #[.val (.int p1)] [(.int (9 : Int32)), (.int p1)])) _
              by_cases hc57_6 : p1 = (9 : Int32)
              · skip
                refine Own.go (fun t k => XS.icmpNo X0.here hx rfl (hb hby d3_57) rfl (teq hc57_6).2 k) ?_
                show Own.Fin p e below (s₁.setTop (mkF m 60 #[.val (.int p1)] [])) _
                refine Own.go (fun t k => XS.bipush X0.here hx rfl (hb hby d3_60) k) ?_
                show Own.Fin p e below (s₁.setTop (mkF m 62 #[.val (.int p1)] [(.int (116 : Int32))])) _
                refine Own.retI X0 hx Bd.notSynchronized Bd.returns (hb hby d3_62) (by decide) (by decide) ?_
                exact ⟨by rw [show F_sl p1 = (116 : Int32) by rw [F_sl, if_neg hc3_0, if_neg hc12_1, if_neg hc21_2, if_neg hc30_3, if_neg hc39_4, if_neg hc48_5, if_pos hc57_6]], N0, e0⟩
              · skip
                refine Own.go (fun t k => XS.icmpYes X0.here hx rfl (pc0 := 57) (pc' := 63) rfl (hb hby d3_57) rfl (feq hc57_6).2 (by decide) (by decide) k) ?_
                show Own.Fin p e below (s₁.setTop (mkF m 63 #[.val (.int p1)] [])) _
                refine Own.go (fun t k => XS.iconst X0.here hx rfl (hb hby d3_63) k) ?_
                show Own.Fin p e below (s₁.setTop (mkF m 64 #[.val (.int p1)] [(.int (0 : Int32))])) _
                refine Own.retI X0 hx Bd.notSynchronized Bd.returns (hb hby d3_64) (by decide) (by decide) ?_
                exact ⟨by rw [show F_sl p1 = (0 : Int32) by rw [F_sl, if_neg hc3_0, if_neg hc12_1, if_neg hc21_2, if_neg hc30_3, if_neg hc39_4, if_neg hc48_5, if_neg hc57_6]], N0, e0⟩
theorem d4_0 : decode method_6_code 0 = .ok (.iload_n 0, 1) := by decide +kernel
theorem d4_1 : decode method_6_code 1 = .ok (.bipush 10, 2) := by decide +kernel
theorem d4_3 : decode method_6_code 3 = .ok (.if_icmp .ge 10, 3) := by decide +kernel
theorem d4_6 : decode method_6_code 6 = .ok (.bipush 48, 2) := by decide +kernel
theorem d4_8 : decode method_6_code 8 = .ok (.iload_n 0, 1) := by decide +kernel
theorem d4_9 : decode method_6_code 9 = .ok (.iadd, 1) := by decide +kernel
theorem d4_10 : decode method_6_code 10 = .ok (.goto 10, 3) := by decide +kernel
theorem d4_13 : decode method_6_code 13 = .ok (.bipush 65, 2) := by decide +kernel
theorem d4_15 : decode method_6_code 15 = .ok (.iload_n 0, 1) := by decide +kernel
theorem d4_16 : decode method_6_code 16 = .ok (.bipush 10, 2) := by decide +kernel
theorem d4_18 : decode method_6_code 18 = .ok (.isub, 1) := by decide +kernel
theorem d4_19 : decode method_6_code 19 = .ok (.iadd, 1) := by decide +kernel
theorem d4_20 : decode method_6_code 20 = .ok (.ireturn, 1) := by decide +kernel
theorem pn_4 : plainName "com/example/changelane/changelane/JsonWriterEscapesPinLaw" = true := by first | (simp [plainName, overriddenIn]; done) | decide +kernel
theorem ef_4 (m : MethodId) (p1 : Int32) : entryFrame m #[(.int p1)] 1 = mkF m 0 #[.val (.int p1)] [] := by first | (simp [entryFrame, mkF, argsToLocals, Value.category]; done) | rfl
def Q4 (Z : State) (p1 : Int32)  (h0 : Heap) (n0 : Nat) : Option Value → Heap → List Loc → Prop := fun v h L => ∃ z : Int32, v = some (.int z) ∧ Fr n0 L ∧ h = h0
set_option maxRecDepth 65536 in
set_option maxHeartbeats 40000000 in
theorem rm4 (l : Launch) (Z : State) (a0 : Array Value) (hw : ∀ d ∈ tables_1, d.before a0 Z = true) (ws : List Jvm.Cond) (p1 : Int32)  (h0 : Heap) (n0 : Nat) (Z0 : n0 ≤ h0.size)  :
    MetFree l (⟨"com/example/changelane/changelane/JsonWriterEscapesPinLaw", "hexUpper", "(I)I"⟩ : MethodName) (head1 (Jvm.Cond.code (⟨"com/example/changelane/changelane/JsonWriterEscapesPinLaw", "hexUpper", "(I)I"⟩ : MethodName) method_6_code 1 (some .int) :: ws) ({ frames := 0, cells := 0, slots := 0, locals := 0 } : Room)) (fun a U => a = #[(.int p1)] ∧ Z.Warmed39 U.vm ∧ U.heap = h0) (fun _ _ _ _ _ => True) (fun _ U o U' => ∃ v L, o = .returned v ∧ (Q4 Z p1 h0 n0) v U'.heap L ∧ FrameEnd U o U' L ({ frames := 0, cells := 0, slots := 0, locals := 0 } : Room).cells ({ frames := 0, cells := 0, slots := 0, locals := 0 } : Room).slots) := by
  refine MetFree.of_bodySF (plainFor_of_name pn_4) hisR ?_
  intro p e s m args below meth c s₁ Bd hml0 hP hK
  obtain ⟨rfl, hZ, hh⟩ := hP
  have hx := Bd.exec
  have hby := Bd.bytes
  have hml : c.maxLocals = 1 := hml0
  have hown : s.vm.findClass "com/example/changelane/changelane/JsonWriterEscapesPinLaw" = some m.cls := findClass_of_methodNamed Bd.named
  have hnm := (name_of_methodNamed Bd.named Bd.method).1
  have X0 : Stand p l e ({ frames := 0, cells := 0, slots := 0, locals := 0 } : Room) s m #[(.int p1)] below meth c s₁ [] 0 0 := Stand.of_body Bd
  have e0 : s₁.heap = h0 := by rw [← hh, Bd.state]; rfl
  have N0 := Fr.nil n0
  show Own.Fin p e below _ (Own.Post s (Q4 Z p1 h0 n0) ({ frames := 0, cells := 0, slots := 0, locals := 0 } : Room).cells ({ frames := 0, cells := 0, slots := 0, locals := 0 } : Room).slots)
  refine Own.start (ef_4 m p1) ?_
  show Own.Fin p e below (s₁.setTop (mkF m 0 #[.val (.int p1)] [])) _
  refine Own.go (fun t k => XS.iloadN X0.here hx rfl (hb hby d4_0) rfl k) ?_
  show Own.Fin p e below (s₁.setTop (mkF m 1 #[.val (.int p1)] [(.int p1)])) _
  refine Own.go (fun t k => XS.bipush X0.here hx rfl (hb hby d4_1) k) ?_
  show Own.Fin p e below (s₁.setTop (mkF m 3 #[.val (.int p1)] [(.int (10 : Int32)), (.int p1)])) _
  by_cases hc3_0 : p1 < (10 : Int32)
  · skip
    refine Own.go (fun t k => XS.icmpNo X0.here hx rfl (hb hby d4_3) rfl (tlt hc3_0).2.1 k) ?_
    show Own.Fin p e below (s₁.setTop (mkF m 6 #[.val (.int p1)] [])) _
    refine Own.go (fun t k => XS.bipush X0.here hx rfl (hb hby d4_6) k) ?_
    show Own.Fin p e below (s₁.setTop (mkF m 8 #[.val (.int p1)] [(.int (48 : Int32))])) _
    refine Own.go (fun t k => XS.iloadN X0.here hx rfl (hb hby d4_8) rfl k) ?_
    show Own.Fin p e below (s₁.setTop (mkF m 9 #[.val (.int p1)] [(.int p1), (.int (48 : Int32))])) _
    refine Own.go (fun t k => XS.iadd X0.here hx rfl (hb hby d4_9) rfl k) ?_
    show Own.Fin p e below (s₁.setTop (mkF m 10 #[.val (.int p1)] [(.int ((48 : Int32) + p1))])) _
    refine Own.go (fun t k => XS.goto X0.here hx rfl (pc0 := 10) (pc' := 20) rfl (hb hby d4_10) (by decide) (by decide) k) ?_
    show Own.Fin p e below (s₁.setTop (mkF m 20 #[.val (.int p1)] [(.int ((48 : Int32) + p1))])) _
    refine Own.retI X0 hx Bd.notSynchronized Bd.returns (hb hby d4_20) (by decide) (by decide) ?_
    exact ⟨_, rfl, N0, e0⟩
  · skip
    refine Own.go (fun t k => XS.icmpYes X0.here hx rfl (pc0 := 3) (pc' := 13) rfl (hb hby d4_3) rfl (flt hc3_0).2.1 (by decide) (by decide) k) ?_
    show Own.Fin p e below (s₁.setTop (mkF m 13 #[.val (.int p1)] [])) _
    refine Own.go (fun t k => XS.bipush X0.here hx rfl (hb hby d4_13) k) ?_
    show Own.Fin p e below (s₁.setTop (mkF m 15 #[.val (.int p1)] [(.int (65 : Int32))])) _
    refine Own.go (fun t k => XS.iloadN X0.here hx rfl (hb hby d4_15) rfl k) ?_
    show Own.Fin p e below (s₁.setTop (mkF m 16 #[.val (.int p1)] [(.int p1), (.int (65 : Int32))])) _
    refine Own.go (fun t k => XS.bipush X0.here hx rfl (hb hby d4_16) k) ?_
    show Own.Fin p e below (s₁.setTop (mkF m 18 #[.val (.int p1)] [(.int (10 : Int32)), (.int p1), (.int (65 : Int32))])) _
    refine Own.go (fun t k => XS.isub X0.here hx rfl (hb hby d4_18) rfl k) ?_
    show Own.Fin p e below (s₁.setTop (mkF m 19 #[.val (.int p1)] [(.int (p1 - (10 : Int32))), (.int (65 : Int32))])) _
    refine Own.go (fun t k => XS.iadd X0.here hx rfl (hb hby d4_19) rfl k) ?_
    show Own.Fin p e below (s₁.setTop (mkF m 20 #[.val (.int p1)] [(.int ((65 : Int32) + (p1 - (10 : Int32))))])) _
    refine Own.retI X0 hx Bd.notSynchronized Bd.returns (hb hby d4_20) (by decide) (by decide) ?_
    exact ⟨_, rfl, N0, e0⟩
theorem d5_0 : decode method_4_code 0 = .ok (.iload_n 0, 1) := by decide +kernel
theorem d5_1 : decode method_4_code 1 = .ok (.ifCond .ne 6, 3) := by decide +kernel
theorem d5_4 : decode method_4_code 4 = .ok (.bipush 34, 2) := by decide +kernel
theorem d5_6 : decode method_4_code 6 = .ok (.ireturn, 1) := by decide +kernel
theorem d5_7 : decode method_4_code 7 = .ok (.iload_n 0, 1) := by decide +kernel
theorem d5_8 : decode method_4_code 8 = .ok (.iconst 1, 1) := by decide +kernel
theorem d5_9 : decode method_4_code 9 = .ok (.if_icmp .ne 6, 3) := by decide +kernel
theorem d5_12 : decode method_4_code 12 = .ok (.bipush 92, 2) := by decide +kernel
theorem d5_14 : decode method_4_code 14 = .ok (.ireturn, 1) := by decide +kernel
theorem d5_15 : decode method_4_code 15 = .ok (.iload_n 0, 1) := by decide +kernel
theorem d5_16 : decode method_4_code 16 = .ok (.iconst 2, 1) := by decide +kernel
theorem d5_17 : decode method_4_code 17 = .ok (.if_icmp .ne 6, 3) := by decide +kernel
theorem d5_20 : decode method_4_code 20 = .ok (.bipush 98, 2) := by decide +kernel
theorem d5_22 : decode method_4_code 22 = .ok (.ireturn, 1) := by decide +kernel
theorem d5_23 : decode method_4_code 23 = .ok (.iload_n 0, 1) := by decide +kernel
theorem d5_24 : decode method_4_code 24 = .ok (.iconst 3, 1) := by decide +kernel
theorem d5_25 : decode method_4_code 25 = .ok (.if_icmp .ne 6, 3) := by decide +kernel
theorem d5_28 : decode method_4_code 28 = .ok (.bipush 102, 2) := by decide +kernel
theorem d5_30 : decode method_4_code 30 = .ok (.ireturn, 1) := by decide +kernel
theorem d5_31 : decode method_4_code 31 = .ok (.iload_n 0, 1) := by decide +kernel
theorem d5_32 : decode method_4_code 32 = .ok (.iconst 4, 1) := by decide +kernel
theorem d5_33 : decode method_4_code 33 = .ok (.if_icmp .ne 6, 3) := by decide +kernel
theorem d5_36 : decode method_4_code 36 = .ok (.bipush 110, 2) := by decide +kernel
theorem d5_38 : decode method_4_code 38 = .ok (.ireturn, 1) := by decide +kernel
theorem d5_39 : decode method_4_code 39 = .ok (.iload_n 0, 1) := by decide +kernel
theorem d5_40 : decode method_4_code 40 = .ok (.iconst 5, 1) := by decide +kernel
theorem d5_41 : decode method_4_code 41 = .ok (.if_icmp .ne 6, 3) := by decide +kernel
theorem d5_44 : decode method_4_code 44 = .ok (.bipush 114, 2) := by decide +kernel
theorem d5_46 : decode method_4_code 46 = .ok (.ireturn, 1) := by decide +kernel
theorem d5_47 : decode method_4_code 47 = .ok (.iload_n 0, 1) := by decide +kernel
theorem d5_48 : decode method_4_code 48 = .ok (.bipush 6, 2) := by decide +kernel
theorem d5_50 : decode method_4_code 50 = .ok (.if_icmp .ne 6, 3) := by decide +kernel
theorem d5_53 : decode method_4_code 53 = .ok (.bipush 116, 2) := by decide +kernel
theorem d5_55 : decode method_4_code 55 = .ok (.ireturn, 1) := by decide +kernel
theorem d5_56 : decode method_4_code 56 = .ok (.bipush 117, 2) := by decide +kernel
theorem d5_58 : decode method_4_code 58 = .ok (.ireturn, 1) := by decide +kernel
theorem pn_5 : plainName "com/example/changelane/changelane/JsonWriterEscapesPinLaw" = true := by first | (simp [plainName, overriddenIn]; done) | decide +kernel
theorem ef_5 (m : MethodId) (p1 : Int32) : entryFrame m #[(.int p1)] 1 = mkF m 0 #[.val (.int p1)] [] := by first | (simp [entryFrame, mkF, argsToLocals, Value.category]; done) | rfl
def Q5 (Z : State) (p1 : Int32)  (h0 : Heap) (n0 : Nat) : Option Value → Heap → List Loc → Prop := fun v h L => ∃ z : Int32, v = some (.int z) ∧ Fr n0 L ∧ h = h0
set_option maxRecDepth 65536 in
set_option maxHeartbeats 40000000 in
theorem rm5 (l : Launch) (Z : State) (a0 : Array Value) (hw : ∀ d ∈ tables_1, d.before a0 Z = true) (ws : List Jvm.Cond) (p1 : Int32)  (h0 : Heap) (n0 : Nat) (Z0 : n0 ≤ h0.size)  :
    MetFree l (⟨"com/example/changelane/changelane/JsonWriterEscapesPinLaw", "letterAt", "(I)I"⟩ : MethodName) (head1 (Jvm.Cond.code (⟨"com/example/changelane/changelane/JsonWriterEscapesPinLaw", "letterAt", "(I)I"⟩ : MethodName) method_4_code 1 (some .int) :: ws) ({ frames := 0, cells := 0, slots := 0, locals := 0 } : Room)) (fun a U => a = #[(.int p1)] ∧ Z.Warmed39 U.vm ∧ U.heap = h0) (fun _ _ _ _ _ => True) (fun _ U o U' => ∃ v L, o = .returned v ∧ (Q5 Z p1 h0 n0) v U'.heap L ∧ FrameEnd U o U' L ({ frames := 0, cells := 0, slots := 0, locals := 0 } : Room).cells ({ frames := 0, cells := 0, slots := 0, locals := 0 } : Room).slots) := by
  refine MetFree.of_bodySF (plainFor_of_name pn_5) hisR ?_
  intro p e s m args below meth c s₁ Bd hml0 hP hK
  obtain ⟨rfl, hZ, hh⟩ := hP
  have hx := Bd.exec
  have hby := Bd.bytes
  have hml : c.maxLocals = 1 := hml0
  have hown : s.vm.findClass "com/example/changelane/changelane/JsonWriterEscapesPinLaw" = some m.cls := findClass_of_methodNamed Bd.named
  have hnm := (name_of_methodNamed Bd.named Bd.method).1
  have X0 : Stand p l e ({ frames := 0, cells := 0, slots := 0, locals := 0 } : Room) s m #[(.int p1)] below meth c s₁ [] 0 0 := Stand.of_body Bd
  have e0 : s₁.heap = h0 := by rw [← hh, Bd.state]; rfl
  have N0 := Fr.nil n0
  show Own.Fin p e below _ (Own.Post s (Q5 Z p1 h0 n0) ({ frames := 0, cells := 0, slots := 0, locals := 0 } : Room).cells ({ frames := 0, cells := 0, slots := 0, locals := 0 } : Room).slots)
  refine Own.start (ef_5 m p1) ?_
  show Own.Fin p e below (s₁.setTop (mkF m 0 #[.val (.int p1)] [])) _
  refine Own.go (fun t k => XS.iloadN X0.here hx rfl (hb hby d5_0) rfl k) ?_
  show Own.Fin p e below (s₁.setTop (mkF m 1 #[.val (.int p1)] [(.int p1)])) _
  by_cases hc1_0 : p1 = (0 : Int32)
  · skip
    refine Own.go (fun t k => XS.ifNo X0.here hx rfl (hb hby d5_1) rfl ((if0 _ _).trans (teq hc1_0).2) k) ?_
    show Own.Fin p e below (s₁.setTop (mkF m 4 #[.val (.int p1)] [])) _
    refine Own.go (fun t k => XS.bipush X0.here hx rfl (hb hby d5_4) k) ?_
    show Own.Fin p e below (s₁.setTop (mkF m 6 #[.val (.int p1)] [(.int (34 : Int32))])) _
    refine Own.retI X0 hx Bd.notSynchronized Bd.returns (hb hby d5_6) (by decide) (by decide) ?_
    exact ⟨_, rfl, N0, e0⟩
  · skip
    refine Own.go (fun t k => XS.ifYes X0.here hx rfl (pc0 := 1) (pc' := 7) rfl (hb hby d5_1) rfl ((if0 _ _).trans (feq hc1_0).2) (by decide) (by decide) k) ?_
    show Own.Fin p e below (s₁.setTop (mkF m 7 #[.val (.int p1)] [])) _
    refine Own.go (fun t k => XS.iloadN X0.here hx rfl (hb hby d5_7) rfl k) ?_
    show Own.Fin p e below (s₁.setTop (mkF m 8 #[.val (.int p1)] [(.int p1)])) _
    refine Own.go (fun t k => XS.iconst X0.here hx rfl (hb hby d5_8) k) ?_
    show Own.Fin p e below (s₁.setTop (mkF m 9 #[.val (.int p1)] [(.int (1 : Int32)), (.int p1)])) _
    by_cases hc9_1 : p1 = (1 : Int32)
    · skip
      refine Own.go (fun t k => XS.icmpNo X0.here hx rfl (hb hby d5_9) rfl (teq hc9_1).2 k) ?_
      show Own.Fin p e below (s₁.setTop (mkF m 12 #[.val (.int p1)] [])) _
      refine Own.go (fun t k => XS.bipush X0.here hx rfl (hb hby d5_12) k) ?_
      show Own.Fin p e below (s₁.setTop (mkF m 14 #[.val (.int p1)] [(.int (92 : Int32))])) _
      refine Own.retI X0 hx Bd.notSynchronized Bd.returns (hb hby d5_14) (by decide) (by decide) ?_
      exact ⟨_, rfl, N0, e0⟩
    · skip
      refine Own.go (fun t k => XS.icmpYes X0.here hx rfl (pc0 := 9) (pc' := 15) rfl (hb hby d5_9) rfl (feq hc9_1).2 (by decide) (by decide) k) ?_
      show Own.Fin p e below (s₁.setTop (mkF m 15 #[.val (.int p1)] [])) _
      refine Own.go (fun t k => XS.iloadN X0.here hx rfl (hb hby d5_15) rfl k) ?_
      show Own.Fin p e below (s₁.setTop (mkF m 16 #[.val (.int p1)] [(.int p1)])) _
      refine Own.go (fun t k => XS.iconst X0.here hx rfl (hb hby d5_16) k) ?_
      show Own.Fin p e below (s₁.setTop (mkF m 17 #[.val (.int p1)] [(.int (2 : Int32)), (.int p1)])) _
      by_cases hc17_2 : p1 = (2 : Int32)
      · skip
        refine Own.go (fun t k => XS.icmpNo X0.here hx rfl (hb hby d5_17) rfl (teq hc17_2).2 k) ?_
        show Own.Fin p e below (s₁.setTop (mkF m 20 #[.val (.int p1)] [])) _
        refine Own.go (fun t k => XS.bipush X0.here hx rfl (hb hby d5_20) k) ?_
        show Own.Fin p e below (s₁.setTop (mkF m 22 #[.val (.int p1)] [(.int (98 : Int32))])) _
        refine Own.retI X0 hx Bd.notSynchronized Bd.returns (hb hby d5_22) (by decide) (by decide) ?_
        exact ⟨_, rfl, N0, e0⟩
      · skip
        refine Own.go (fun t k => XS.icmpYes X0.here hx rfl (pc0 := 17) (pc' := 23) rfl (hb hby d5_17) rfl (feq hc17_2).2 (by decide) (by decide) k) ?_
        show Own.Fin p e below (s₁.setTop (mkF m 23 #[.val (.int p1)] [])) _
        refine Own.go (fun t k => XS.iloadN X0.here hx rfl (hb hby d5_23) rfl k) ?_
        show Own.Fin p e below (s₁.setTop (mkF m 24 #[.val (.int p1)] [(.int p1)])) _
        refine Own.go (fun t k => XS.iconst X0.here hx rfl (hb hby d5_24) k) ?_
        show Own.Fin p e below (s₁.setTop (mkF m 25 #[.val (.int p1)] [(.int (3 : Int32)), (.int p1)])) _
        by_cases hc25_3 : p1 = (3 : Int32)
        · skip
          refine Own.go (fun t k => XS.icmpNo X0.here hx rfl (hb hby d5_25) rfl (teq hc25_3).2 k) ?_
          show Own.Fin p e below (s₁.setTop (mkF m 28 #[.val (.int p1)] [])) _
          refine Own.go (fun t k => XS.bipush X0.here hx rfl (hb hby d5_28) k) ?_
          show Own.Fin p e below (s₁.setTop (mkF m 30 #[.val (.int p1)] [(.int (102 : Int32))])) _
          refine Own.retI X0 hx Bd.notSynchronized Bd.returns (hb hby d5_30) (by decide) (by decide) ?_
          exact ⟨_, rfl, N0, e0⟩
        · skip
          refine Own.go (fun t k => XS.icmpYes X0.here hx rfl (pc0 := 25) (pc' := 31) rfl (hb hby d5_25) rfl (feq hc25_3).2 (by decide) (by decide) k) ?_
          show Own.Fin p e below (s₁.setTop (mkF m 31 #[.val (.int p1)] [])) _
          refine Own.go (fun t k => XS.iloadN X0.here hx rfl (hb hby d5_31) rfl k) ?_
          show Own.Fin p e below (s₁.setTop (mkF m 32 #[.val (.int p1)] [(.int p1)])) _
          refine Own.go (fun t k => XS.iconst X0.here hx rfl (hb hby d5_32) k) ?_
          show Own.Fin p e below (s₁.setTop (mkF m 33 #[.val (.int p1)] [(.int (4 : Int32)), (.int p1)])) _
          by_cases hc33_4 : p1 = (4 : Int32)
          · skip
            refine Own.go (fun t k => XS.icmpNo X0.here hx rfl (hb hby d5_33) rfl (teq hc33_4).2 k) ?_
            show Own.Fin p e below (s₁.setTop (mkF m 36 #[.val (.int p1)] [])) _
            refine Own.go (fun t k => XS.bipush X0.here hx rfl (hb hby d5_36) k) ?_
            show Own.Fin p e below (s₁.setTop (mkF m 38 #[.val (.int p1)] [(.int (110 : Int32))])) _
            refine Own.retI X0 hx Bd.notSynchronized Bd.returns (hb hby d5_38) (by decide) (by decide) ?_
            exact ⟨_, rfl, N0, e0⟩
          · skip
            refine Own.go (fun t k => XS.icmpYes X0.here hx rfl (pc0 := 33) (pc' := 39) rfl (hb hby d5_33) rfl (feq hc33_4).2 (by decide) (by decide) k) ?_
            show Own.Fin p e below (s₁.setTop (mkF m 39 #[.val (.int p1)] [])) _
            refine Own.go (fun t k => XS.iloadN X0.here hx rfl (hb hby d5_39) rfl k) ?_
            show Own.Fin p e below (s₁.setTop (mkF m 40 #[.val (.int p1)] [(.int p1)])) _
            refine Own.go (fun t k => XS.iconst X0.here hx rfl (hb hby d5_40) k) ?_
            show Own.Fin p e below (s₁.setTop (mkF m 41 #[.val (.int p1)] [(.int (5 : Int32)), (.int p1)])) _
            by_cases hc41_5 : p1 = (5 : Int32)
            · skip
              refine Own.go (fun t k => XS.icmpNo X0.here hx rfl (hb hby d5_41) rfl (teq hc41_5).2 k) ?_
              show Own.Fin p e below (s₁.setTop (mkF m 44 #[.val (.int p1)] [])) _
              refine Own.go (fun t k => XS.bipush X0.here hx rfl (hb hby d5_44) k) ?_
              show Own.Fin p e below (s₁.setTop (mkF m 46 #[.val (.int p1)] [(.int (114 : Int32))])) _
              refine Own.retI X0 hx Bd.notSynchronized Bd.returns (hb hby d5_46) (by decide) (by decide) ?_
              exact ⟨_, rfl, N0, e0⟩
            · skip
              refine Own.go (fun t k => XS.icmpYes X0.here hx rfl (pc0 := 41) (pc' := 47) rfl (hb hby d5_41) rfl (feq hc41_5).2 (by decide) (by decide) k) ?_
              show Own.Fin p e below (s₁.setTop (mkF m 47 #[.val (.int p1)] [])) _
              refine Own.go (fun t k => XS.iloadN X0.here hx rfl (hb hby d5_47) rfl k) ?_
              show Own.Fin p e below (s₁.setTop (mkF m 48 #[.val (.int p1)] [(.int p1)])) _
              refine Own.go (fun t k => XS.bipush X0.here hx rfl (hb hby d5_48) k) ?_
              show Own.Fin p e below (s₁.setTop (mkF m 50 #[.val (.int p1)] [(.int (6 : Int32)), (.int p1)])) _
              by_cases hc50_6 : p1 = (6 : Int32)
              · skip
                refine Own.go (fun t k => XS.icmpNo X0.here hx rfl (hb hby d5_50) rfl (teq hc50_6).2 k) ?_
                show Own.Fin p e below (s₁.setTop (mkF m 53 #[.val (.int p1)] [])) _
                refine Own.go (fun t k => XS.bipush X0.here hx rfl (hb hby d5_53) k) ?_
                show Own.Fin p e below (s₁.setTop (mkF m 55 #[.val (.int p1)] [(.int (116 : Int32))])) _
                refine Own.retI X0 hx Bd.notSynchronized Bd.returns (hb hby d5_55) (by decide) (by decide) ?_
                exact ⟨_, rfl, N0, e0⟩
              · skip
                refine Own.go (fun t k => XS.icmpYes X0.here hx rfl (pc0 := 50) (pc' := 56) rfl (hb hby d5_50) rfl (feq hc50_6).2 (by decide) (by decide) k) ?_
                show Own.Fin p e below (s₁.setTop (mkF m 56 #[.val (.int p1)] [])) _
                refine Own.go (fun t k => XS.bipush X0.here hx rfl (hb hby d5_56) k) ?_
                show Own.Fin p e below (s₁.setTop (mkF m 58 #[.val (.int p1)] [(.int (117 : Int32))])) _
                refine Own.retI X0 hx Bd.notSynchronized Bd.returns (hb hby d5_58) (by decide) (by decide) ?_
                exact ⟨_, rfl, N0, e0⟩
theorem own_inb {j : Int32} {cl : Cell} {n : Nat} {z : Int32} (hn : cl.slots.size = n) (hz : z.toNatClampNeg = n) (hj : ¬ j < 0 ∧ j < z) : ¬ (j < 0 ∨ cl.slots.size ≤ j.toNatClampNeg) := by
  rintro (h | h)
  · exact hj.1 h
  · have := Own.clamp_lt hj hz
    omega
theorem own_sh4 (c : Int32) (h : 0 ≤ c.toInt) (h2 : c < (32 : Int32)) : ¬ (c >>> ((4 : Int32) &&& 31)) < 0 ∧ (c >>> ((4 : Int32) &&& 31)) < (16 : Int32) := by
  have h1 := c_ishr c 4 4 (by decide)
  rw [Int32.lt_iff_toInt_lt, show (32 : Int32).toInt = 32 by decide] at h2
  rw [Int32.lt_iff_toInt_lt, Int32.lt_iff_toInt_lt, h1, show (0 : Int32).toInt = 0 by decide, show (16 : Int32).toInt = 16 by decide]
  omega
theorem own_an15 (c : Int32) : ¬ (c &&& (15 : Int32)) < 0 ∧ (c &&& (15 : Int32)) < (16 : Int32) := by
  have h1 := c_and c 15 (by decide)
  rw [show (15 : Int32).toInt = 15 by decide] at h1
  rw [Int32.lt_iff_toInt_lt, Int32.lt_iff_toInt_lt, show (0 : Int32).toInt = 0 by decide, show (16 : Int32).toInt = 16 by decide]
  omega
theorem own_117 (c : Int32) (h : F_tab c = 117) : c < 32 := by
  by_cases q : c < 32
  · exact q
  · exfalso
    unfold F_tab at h
    simp only [q, if_false] at h
    repeat' split at h
    all_goals exact absurd h (by decide)
theorem d2_0 : decode prog_14_method_7_code 0 = .ok (.iload_n 0, 1) := by decide +kernel
theorem d2_1 : decode prog_14_method_7_code 1 = .ok (.getstatic 156, 3) := by decide +kernel
theorem d2_4 : decode prog_14_method_7_code 4 = .ok (.arraylength, 1) := by decide +kernel
theorem d2_5 : decode prog_14_method_7_code 5 = .ok (.if_icmp .ge 11, 3) := by decide +kernel
theorem d2_8 : decode prog_14_method_7_code 8 = .ok (.getstatic 156, 3) := by decide +kernel
theorem d2_11 : decode prog_14_method_7_code 11 = .ok (.iload_n 0, 1) := by decide +kernel
theorem d2_12 : decode prog_14_method_7_code 12 = .ok (.baload, 1) := by decide +kernel
theorem d2_13 : decode prog_14_method_7_code 13 = .ok (.goto 4, 3) := by decide +kernel
theorem d2_16 : decode prog_14_method_7_code 16 = .ok (.iconst 0, 1) := by decide +kernel
theorem d2_17 : decode prog_14_method_7_code 17 = .ok (.istore 4, 2) := by decide +kernel
theorem d2_19 : decode prog_14_method_7_code 19 = .ok (.iload 4, 2) := by decide +kernel
theorem d2_21 : decode prog_14_method_7_code 21 = .ok (.ifCond .ne 9, 3) := by decide +kernel
theorem d2_24 : decode prog_14_method_7_code 24 = .ok (.iconst 0, 1) := by decide +kernel
theorem d2_25 : decode prog_14_method_7_code 25 = .ok (.istore 5, 2) := by decide +kernel
theorem d2_27 : decode prog_14_method_7_code 27 = .ok (.goto 109, 3) := by decide +kernel
theorem d2_30 : decode prog_14_method_7_code 30 = .ok (.iload 4, 2) := by decide +kernel
theorem d2_32 : decode prog_14_method_7_code 32 = .ok (.bipush 117, 2) := by decide +kernel
theorem d2_34 : decode prog_14_method_7_code 34 = .ok (.if_icmp .eq 28, 3) := by decide +kernel
theorem d2_37 : decode prog_14_method_7_code 37 = .ok (.iload_n 3, 1) := by decide +kernel
theorem d2_38 : decode prog_14_method_7_code 38 = .ok (.iconst 2, 1) := by decide +kernel
theorem d2_39 : decode prog_14_method_7_code 39 = .ok (.if_icmp .ne 17, 3) := by decide +kernel
theorem d2_42 : decode prog_14_method_7_code 42 = .ok (.aload_n 1, 1) := by decide +kernel
theorem d2_43 : decode prog_14_method_7_code 43 = .ok (.iload_n 2, 1) := by decide +kernel
theorem d2_44 : decode prog_14_method_7_code 44 = .ok (.iconst 1, 1) := by decide +kernel
theorem d2_45 : decode prog_14_method_7_code 45 = .ok (.iadd, 1) := by decide +kernel
theorem d2_46 : decode prog_14_method_7_code 46 = .ok (.baload, 1) := by decide +kernel
theorem d2_47 : decode prog_14_method_7_code 47 = .ok (.iload 4, 2) := by decide +kernel
theorem d2_49 : decode prog_14_method_7_code 49 = .ok (.if_icmp .ne 7, 3) := by decide +kernel
theorem d2_52 : decode prog_14_method_7_code 52 = .ok (.iconst 1, 1) := by decide +kernel
theorem d2_53 : decode prog_14_method_7_code 53 = .ok (.goto 4, 3) := by decide +kernel
theorem d2_56 : decode prog_14_method_7_code 56 = .ok (.iconst 0, 1) := by decide +kernel
theorem d2_57 : decode prog_14_method_7_code 57 = .ok (.istore 5, 2) := by decide +kernel
theorem d2_59 : decode prog_14_method_7_code 59 = .ok (.goto 77, 3) := by decide +kernel
theorem d2_62 : decode prog_14_method_7_code 62 = .ok (.iload_n 3, 1) := by decide +kernel
theorem d2_63 : decode prog_14_method_7_code 63 = .ok (.bipush 6, 2) := by decide +kernel
theorem d2_65 : decode prog_14_method_7_code 65 = .ok (.if_icmp .ne 68, 3) := by decide +kernel
theorem d2_68 : decode prog_14_method_7_code 68 = .ok (.aload_n 1, 1) := by decide +kernel
theorem d2_69 : decode prog_14_method_7_code 69 = .ok (.iload_n 2, 1) := by decide +kernel
theorem d2_70 : decode prog_14_method_7_code 70 = .ok (.iconst 1, 1) := by decide +kernel
theorem d2_71 : decode prog_14_method_7_code 71 = .ok (.iadd, 1) := by decide +kernel
theorem d2_72 : decode prog_14_method_7_code 72 = .ok (.baload, 1) := by decide +kernel
theorem d2_73 : decode prog_14_method_7_code 73 = .ok (.bipush 117, 2) := by decide +kernel
theorem d2_75 : decode prog_14_method_7_code 75 = .ok (.if_icmp .ne 58, 3) := by decide +kernel
theorem d2_78 : decode prog_14_method_7_code 78 = .ok (.aload_n 1, 1) := by decide +kernel
theorem d2_79 : decode prog_14_method_7_code 79 = .ok (.iload_n 2, 1) := by decide +kernel
theorem d2_80 : decode prog_14_method_7_code 80 = .ok (.iconst 2, 1) := by decide +kernel
theorem d2_81 : decode prog_14_method_7_code 81 = .ok (.iadd, 1) := by decide +kernel
theorem d2_82 : decode prog_14_method_7_code 82 = .ok (.baload, 1) := by decide +kernel
theorem d2_83 : decode prog_14_method_7_code 83 = .ok (.bipush 48, 2) := by decide +kernel
theorem d2_85 : decode prog_14_method_7_code 85 = .ok (.if_icmp .ne 48, 3) := by decide +kernel
theorem d2_88 : decode prog_14_method_7_code 88 = .ok (.aload_n 1, 1) := by decide +kernel
theorem d2_89 : decode prog_14_method_7_code 89 = .ok (.iload_n 2, 1) := by decide +kernel
theorem d2_90 : decode prog_14_method_7_code 90 = .ok (.iconst 3, 1) := by decide +kernel
theorem d2_91 : decode prog_14_method_7_code 91 = .ok (.iadd, 1) := by decide +kernel
theorem d2_92 : decode prog_14_method_7_code 92 = .ok (.baload, 1) := by decide +kernel
theorem d2_93 : decode prog_14_method_7_code 93 = .ok (.bipush 48, 2) := by decide +kernel
theorem d2_95 : decode prog_14_method_7_code 95 = .ok (.if_icmp .ne 38, 3) := by decide +kernel
theorem d2_98 : decode prog_14_method_7_code 98 = .ok (.aload_n 1, 1) := by decide +kernel
theorem d2_99 : decode prog_14_method_7_code 99 = .ok (.iload_n 2, 1) := by decide +kernel
theorem d2_100 : decode prog_14_method_7_code 100 = .ok (.iconst 4, 1) := by decide +kernel
theorem d2_101 : decode prog_14_method_7_code 101 = .ok (.iadd, 1) := by decide +kernel
theorem d2_102 : decode prog_14_method_7_code 102 = .ok (.baload, 1) := by decide +kernel
theorem d2_103 : decode prog_14_method_7_code 103 = .ok (.getstatic 159, 3) := by decide +kernel
theorem d2_106 : decode prog_14_method_7_code 106 = .ok (.iload_n 0, 1) := by decide +kernel
theorem d2_107 : decode prog_14_method_7_code 107 = .ok (.iconst 4, 1) := by decide +kernel
theorem d2_108 : decode prog_14_method_7_code 108 = .ok (.ishr, 1) := by decide +kernel
theorem d2_109 : decode prog_14_method_7_code 109 = .ok (.baload, 1) := by decide +kernel
theorem d2_110 : decode prog_14_method_7_code 110 = .ok (.if_icmp .ne 23, 3) := by decide +kernel
theorem d2_113 : decode prog_14_method_7_code 113 = .ok (.aload_n 1, 1) := by decide +kernel
theorem d2_114 : decode prog_14_method_7_code 114 = .ok (.iload_n 2, 1) := by decide +kernel
theorem d2_115 : decode prog_14_method_7_code 115 = .ok (.iconst 5, 1) := by decide +kernel
theorem d2_116 : decode prog_14_method_7_code 116 = .ok (.iadd, 1) := by decide +kernel
theorem d2_117 : decode prog_14_method_7_code 117 = .ok (.baload, 1) := by decide +kernel
theorem d2_118 : decode prog_14_method_7_code 118 = .ok (.getstatic 159, 3) := by decide +kernel
theorem d2_121 : decode prog_14_method_7_code 121 = .ok (.iload_n 0, 1) := by decide +kernel
theorem d2_122 : decode prog_14_method_7_code 122 = .ok (.bipush 15, 2) := by decide +kernel
theorem d2_124 : decode prog_14_method_7_code 124 = .ok (.iand, 1) := by decide +kernel
theorem d2_125 : decode prog_14_method_7_code 125 = .ok (.baload, 1) := by decide +kernel
theorem d2_126 : decode prog_14_method_7_code 126 = .ok (.if_icmp .ne 7, 3) := by decide +kernel
theorem d2_129 : decode prog_14_method_7_code 129 = .ok (.iconst 1, 1) := by decide +kernel
theorem d2_130 : decode prog_14_method_7_code 130 = .ok (.goto 4, 3) := by decide +kernel
theorem d2_133 : decode prog_14_method_7_code 133 = .ok (.iconst 0, 1) := by decide +kernel
theorem d2_134 : decode prog_14_method_7_code 134 = .ok (.istore 5, 2) := by decide +kernel
theorem d2_136 : decode prog_14_method_7_code 136 = .ok (.iload 5, 2) := by decide +kernel
theorem d2_138 : decode prog_14_method_7_code 138 = .ok (.ireturn, 1) := by decide +kernel
theorem pn_2 : plainName "com/example/changelane/changelane/JsonWriter" = true := by first | (simp [plainName, overriddenIn]; done) | decide +kernel
theorem ef_2 (m : MethodId) (p1 : Int32) (a2 : Addr) (p3 : Int32) (p4 : Int32) : entryFrame m #[(.int p1), (.ref a2), (.int p3), (.int p4)] 6 = mkF m 0 #[.val (.int p1), .val (.ref a2), .val (.int p3), .val (.int p4), .unset, .unset] [] := by first | (simp [entryFrame, mkF, argsToLocals, Value.category]; done) | rfl
def Q2 (Z : State) (p1 : Int32) (a2 : Addr) (p3 : Int32) (p4 : Int32) (ae ah : Addr) (clE clH : Cell) (kJ : ClassId) (vs : List Value) (y1 y2 y3 y4 y5 : Int32) (h0 : Heap) (n0 : Nat) : Option Value → Heap → List Loc → Prop := fun v h L => v = some (.int (F_esc p1 p4 y1 y2 y3 y4 y5)) ∧ Fr n0 L ∧ h = h0
set_option maxRecDepth 65536 in
set_option maxHeartbeats 40000000 in
theorem rm2 (l : Launch) (Z : State) (a0 : Array Value) (hw : ∀ d ∈ tables_1, d.before a0 Z = true) (ws : List Jvm.Cond) (p1 : Int32) (a2 : Addr) (p3 : Int32) (p4 : Int32) (ae ah : Addr) (clE clH : Cell) (kJ : ClassId) (vs : List Value) (y1 y2 y3 y4 y5 : Int32) (h0 : Heap) (n0 : Nat) (Z0 : n0 ≤ h0.size) (O0 : Old Z n0 h0) (SE : Sta Z Z.heap "com/example/changelane/changelane/JsonWriter" "ESCAPES" "[B" (.ref ae)) (AE : Arr Z Z.heap ae clE .byte) (zE : clE.slots.size.toInt32 = (128 : Int32)) (nE : clE.slots.size = 128) (tE : ∀ j : Int32, ¬ j < 0 → j < (128 : Int32) → clE.slots[j.toNatClampNeg]? = some (.int (F_tab j))) (SH : Sta Z Z.heap "com/example/changelane/changelane/JsonWriter" "HEX" "[B" (.ref ah)) (AH : Arr Z Z.heap ah clH .byte) (nH : clH.slots.size = 16) (tH : ∀ j : Int32, ¬ j < 0 → j < (16 : Int32) → clH.slots[j.toNatClampNeg]? = some (.int (F_hl j))) (hp1 : 0 ≤ p1.toInt) (hp0 : ¬ p1 < 0) (VJ : Arv Z h0 a2 kJ .byte (12 : Int32) vs (.int (0 : Int32))) (hy1 : vs.getD (p3 + (1 : Int32)).toNatClampNeg (.int (0 : Int32)) = .int y1) (hat1 : ¬ (p3 + (1 : Int32)) < 0 ∧ (p3 + (1 : Int32)) < (12 : Int32)) (hy2 : vs.getD (p3 + (2 : Int32)).toNatClampNeg (.int (0 : Int32)) = .int y2) (hat2 : ¬ (p3 + (2 : Int32)) < 0 ∧ (p3 + (2 : Int32)) < (12 : Int32)) (hy3 : vs.getD (p3 + (3 : Int32)).toNatClampNeg (.int (0 : Int32)) = .int y3) (hat3 : ¬ (p3 + (3 : Int32)) < 0 ∧ (p3 + (3 : Int32)) < (12 : Int32)) (hy4 : vs.getD (p3 + (4 : Int32)).toNatClampNeg (.int (0 : Int32)) = .int y4) (hat4 : ¬ (p3 + (4 : Int32)) < 0 ∧ (p3 + (4 : Int32)) < (12 : Int32)) (hy5 : vs.getD (p3 + (5 : Int32)).toNatClampNeg (.int (0 : Int32)) = .int y5) (hat5 : ¬ (p3 + (5 : Int32)) < 0 ∧ (p3 + (5 : Int32)) < (12 : Int32)) :
    MetFree l (⟨"com/example/changelane/changelane/JsonWriter", "escapes", "(C[BII)Z"⟩ : MethodName) (head1 (Jvm.Cond.code (⟨"com/example/changelane/changelane/JsonWriter", "escapes", "(C[BII)Z"⟩ : MethodName) prog_14_method_7_code 6 (some .boolean) :: ws) ({ frames := 0, cells := 0, slots := 0, locals := 0 } : Room)) (fun a U => a = #[(.int p1), (.ref a2), (.int p3), (.int p4)] ∧ Z.Warmed39 U.vm ∧ U.heap = h0) (fun _ _ _ _ _ => True) (fun _ U o U' => ∃ v L, o = .returned v ∧ (Q2 Z p1 a2 p3 p4 ae ah clE clH kJ vs y1 y2 y3 y4 y5 h0 n0) v U'.heap L ∧ FrameEnd U o U' L ({ frames := 0, cells := 0, slots := 0, locals := 0 } : Room).cells ({ frames := 0, cells := 0, slots := 0, locals := 0 } : Room).slots) := by
  refine MetFree.of_bodySF (plainFor_of_name pn_2) hisR ?_
  intro p e s m args below meth c s₁ Bd hml0 hP hK
  obtain ⟨rfl, hZ, hh⟩ := hP
  have hx := Bd.exec
  have hby := Bd.bytes
  have hml : c.maxLocals = 6 := hml0
  have hown : s.vm.findClass "com/example/changelane/changelane/JsonWriter" = some m.cls := findClass_of_methodNamed Bd.named
  have hnm := (name_of_methodNamed Bd.named Bd.method).1
  have X0 : Stand p l e ({ frames := 0, cells := 0, slots := 0, locals := 0 } : Room) s m #[(.int p1), (.ref a2), (.int p3), (.int p4)] below meth c s₁ [] 0 0 := Stand.of_body Bd
  have e0 : s₁.heap = h0 := by rw [← hh, Bd.state]; rfl
  have N0 := Fr.nil n0
  show Own.Fin p e below _ (Own.Post s (Q2 Z p1 a2 p3 p4 ae ah clE clH kJ vs y1 y2 y3 y4 y5 h0 n0) ({ frames := 0, cells := 0, slots := 0, locals := 0 } : Room).cells ({ frames := 0, cells := 0, slots := 0, locals := 0 } : Room).slots)
  refine Own.start (ef_2 m p1 a2 p3 p4) ?_
  show Own.Fin p e below (s₁.setTop (mkF m 0 #[.val (.int p1), .val (.ref a2), .val (.int p3), .val (.int p4), .unset, .unset] [])) _
  refine Own.go (fun t k => XS.iloadN X0.here hx rfl (hb hby d2_0) rfl k) ?_
  show Own.Fin p e below (s₁.setTop (mkF m 1 #[.val (.int p1), .val (.ref a2), .val (.int p3), .val (.int p4), .unset, .unset] [(.int p1)])) _
  obtain ⟨T1, X1, e1, st1⟩ := getS2 X0 hx hZ hown (host := "") (Or.inl (hw _ (List.mem_of_getElem? (i := 10) rfl))) Via.refl e0 (SE.ext O0.2) (g := (mkF m 1 #[.val (.int p1), .val (.ref a2), .val (.int p3), .val (.int p4), .unset, .unset] [(.int p1)])) rfl (hb hby d2_1)
  refine Own.go st1 ?_
  show Own.Fin p e below (T1.setTop (mkF m 4 #[.val (.int p1), .val (.ref a2), .val (.int p3), .val (.int p4), .unset, .unset] [(.ref ae), (.int p1)])) _
  refine Own.alenC X1 hx hZ e1 (AE.ext O0.2) zE (hb hby d2_4) ?_
  show Own.Fin p e below (T1.setTop (mkF m 5 #[.val (.int p1), .val (.ref a2), .val (.int p3), .val (.int p4), .unset, .unset] [(.int (128 : Int32)), (.int p1)])) _
  by_cases hc5_1 : p1 < (128 : Int32)
  · skip
    refine Own.go (fun t k => XS.icmpNo X1.here hx rfl (hb hby d2_5) rfl (tlt hc5_1).2.1 k) ?_
    show Own.Fin p e below (T1.setTop (mkF m 8 #[.val (.int p1), .val (.ref a2), .val (.int p3), .val (.int p4), .unset, .unset] [])) _
    obtain ⟨T3, X3, e3, st3⟩ := getS2 X1 hx hZ hown (host := "") (Or.inl (hw _ (List.mem_of_getElem? (i := 10) rfl))) Via.refl e1 (SE.ext O0.2) (g := (mkF m 8 #[.val (.int p1), .val (.ref a2), .val (.int p3), .val (.int p4), .unset, .unset] [])) rfl (hb hby d2_8)
    refine Own.go st3 ?_
    show Own.Fin p e below (T3.setTop (mkF m 11 #[.val (.int p1), .val (.ref a2), .val (.int p3), .val (.int p4), .unset, .unset] [(.ref ae)])) _
    refine Own.go (fun t k => XS.iloadN X3.here hx rfl (hb hby d2_11) rfl k) ?_
    show Own.Fin p e below (T3.setTop (mkF m 12 #[.val (.int p1), .val (.ref a2), .val (.int p3), .val (.int p4), .unset, .unset] [(.int p1), (.ref ae)])) _
    refine Own.ldBc X3 hx hZ e3 (AE.ext O0.2) (hb hby d2_12) (own_inb nE (z := (128 : Int32)) (by decide) ⟨hp0, hc5_1⟩) (tE p1 hp0 hc5_1) ?_
    show Own.Fin p e below (T3.setTop (mkF m 13 #[.val (.int p1), .val (.ref a2), .val (.int p3), .val (.int p4), .unset, .unset] [(.int (F_tab p1))])) _
    refine Own.go (fun t k => XS.goto X3.here hx rfl (pc0 := 13) (pc' := 17) rfl (hb hby d2_13) (by decide) (by decide) k) ?_
    show Own.Fin p e below (T3.setTop (mkF m 17 #[.val (.int p1), .val (.ref a2), .val (.int p3), .val (.int p4), .unset, .unset] [(.int (F_tab p1))])) _
    have hk : F_key p1 = (F_tab p1) := by simp only [F_key, hc5_1, if_true, if_false]
    refine Own.go (fun t k => XS.istore X3.here hx rfl (hb hby d2_17) rfl (l' := #[.val (.int p1), .val (.ref a2), .val (.int p3), .val (.int p4), .val (.int (F_tab p1)), .unset]) rfl k) ?_
    show Own.Fin p e below (T3.setTop (mkF m 19 #[.val (.int p1), .val (.ref a2), .val (.int p3), .val (.int p4), .val (.int (F_tab p1)), .unset] [])) _
    refine Own.go (fun t k => XS.iload X3.here hx rfl (hb hby d2_19) rfl k) ?_
    show Own.Fin p e below (T3.setTop (mkF m 21 #[.val (.int p1), .val (.ref a2), .val (.int p3), .val (.int p4), .val (.int (F_tab p1)), .unset] [(.int (F_tab p1))])) _
    by_cases hc21_3 : (F_tab p1) = (0 : Int32)
    · skip
      refine Own.go (fun t k => XS.ifNo X3.here hx rfl (hb hby d2_21) rfl ((if0 _ _).trans (teq hc21_3).2) k) ?_
      show Own.Fin p e below (T3.setTop (mkF m 24 #[.val (.int p1), .val (.ref a2), .val (.int p3), .val (.int p4), .val (.int (F_tab p1)), .unset] [])) _
      refine Own.go (fun t k => XS.iconst X3.here hx rfl (hb hby d2_24) k) ?_
      show Own.Fin p e below (T3.setTop (mkF m 25 #[.val (.int p1), .val (.ref a2), .val (.int p3), .val (.int p4), .val (.int (F_tab p1)), .unset] [(.int (0 : Int32))])) _
      refine Own.go (fun t k => XS.istore X3.here hx rfl (hb hby d2_25) rfl (l' := #[.val (.int p1), .val (.ref a2), .val (.int p3), .val (.int p4), .val (.int (F_tab p1)), .val (.int (0 : Int32))]) rfl k) ?_
      show Own.Fin p e below (T3.setTop (mkF m 27 #[.val (.int p1), .val (.ref a2), .val (.int p3), .val (.int p4), .val (.int (F_tab p1)), .val (.int (0 : Int32))] [])) _
      refine Own.go (fun t k => XS.goto X3.here hx rfl (pc0 := 27) (pc' := 136) rfl (hb hby d2_27) (by decide) (by decide) k) ?_
      show Own.Fin p e below (T3.setTop (mkF m 136 #[.val (.int p1), .val (.ref a2), .val (.int p3), .val (.int p4), .val (.int (F_tab p1)), .val (.int (0 : Int32))] [])) _
      refine Own.go (fun t k => XS.iload X3.here hx rfl (hb hby d2_136) rfl k) ?_
      show Own.Fin p e below (T3.setTop (mkF m 138 #[.val (.int p1), .val (.ref a2), .val (.int p3), .val (.int p4), .val (.int (F_tab p1)), .val (.int (0 : Int32))] [(.int (0 : Int32))])) _
      refine Own.retN X3 hx Bd.notSynchronized (t := .boolean) Bd.returns (by simp) (hb hby d2_138) (by decide) (by decide) ?_
      exact ⟨by rw [show F_esc p1 p4 y1 y2 y3 y4 y5 = (0 : Int32) by rw [F_esc, hk, if_pos hc21_3]]; rfl, N0, e3⟩
    · skip
      refine Own.go (fun t k => XS.ifYes X3.here hx rfl (pc0 := 21) (pc' := 30) rfl (hb hby d2_21) rfl ((if0 _ _).trans (feq hc21_3).2) (by decide) (by decide) k) ?_
      show Own.Fin p e below (T3.setTop (mkF m 30 #[.val (.int p1), .val (.ref a2), .val (.int p3), .val (.int p4), .val (.int (F_tab p1)), .unset] [])) _
      refine Own.go (fun t k => XS.iload X3.here hx rfl (hb hby d2_30) rfl k) ?_
      show Own.Fin p e below (T3.setTop (mkF m 32 #[.val (.int p1), .val (.ref a2), .val (.int p3), .val (.int p4), .val (.int (F_tab p1)), .unset] [(.int (F_tab p1))])) _
      refine Own.go (fun t k => XS.bipush X3.here hx rfl (hb hby d2_32) k) ?_
      show Own.Fin p e below (T3.setTop (mkF m 34 #[.val (.int p1), .val (.ref a2), .val (.int p3), .val (.int p4), .val (.int (F_tab p1)), .unset] [(.int (117 : Int32)), (.int (F_tab p1))])) _
      by_cases hc34_4 : (F_tab p1) = (117 : Int32)
      · skip
        refine Own.go (fun t k => XS.icmpYes X3.here hx rfl (pc0 := 34) (pc' := 62) rfl (hb hby d2_34) rfl (teq hc34_4).1 (by decide) (by decide) k) ?_
        show Own.Fin p e below (T3.setTop (mkF m 62 #[.val (.int p1), .val (.ref a2), .val (.int p3), .val (.int p4), .val (.int (F_tab p1)), .unset] [])) _
        refine Own.go (fun t k => XS.iloadN X3.here hx rfl (hb hby d2_62) rfl k) ?_
        show Own.Fin p e below (T3.setTop (mkF m 63 #[.val (.int p1), .val (.ref a2), .val (.int p3), .val (.int p4), .val (.int (F_tab p1)), .unset] [(.int p4)])) _
        refine Own.go (fun t k => XS.bipush X3.here hx rfl (hb hby d2_63) k) ?_
        show Own.Fin p e below (T3.setTop (mkF m 65 #[.val (.int p1), .val (.ref a2), .val (.int p3), .val (.int p4), .val (.int (F_tab p1)), .unset] [(.int (6 : Int32)), (.int p4)])) _
        by_cases hc65_5 : p4 = (6 : Int32)
        · skip
          refine Own.go (fun t k => XS.icmpNo X3.here hx rfl (hb hby d2_65) rfl (teq hc65_5).2 k) ?_
          show Own.Fin p e below (T3.setTop (mkF m 68 #[.val (.int p1), .val (.ref a2), .val (.int p3), .val (.int p4), .val (.int (F_tab p1)), .unset] [])) _
          refine Own.go (fun t k => XS.aloadN X3.here hx rfl (hb hby d2_68) rfl rfl k) ?_
          show Own.Fin p e below (T3.setTop (mkF m 69 #[.val (.int p1), .val (.ref a2), .val (.int p3), .val (.int p4), .val (.int (F_tab p1)), .unset] [(.ref a2)])) _
          refine Own.go (fun t k => XS.iloadN X3.here hx rfl (hb hby d2_69) rfl k) ?_
          show Own.Fin p e below (T3.setTop (mkF m 70 #[.val (.int p1), .val (.ref a2), .val (.int p3), .val (.int p4), .val (.int (F_tab p1)), .unset] [(.int p3), (.ref a2)])) _
          refine Own.go (fun t k => XS.iconst X3.here hx rfl (hb hby d2_70) k) ?_
          show Own.Fin p e below (T3.setTop (mkF m 71 #[.val (.int p1), .val (.ref a2), .val (.int p3), .val (.int p4), .val (.int (F_tab p1)), .unset] [(.int (1 : Int32)), (.int p3), (.ref a2)])) _
          refine Own.go (fun t k => XS.iadd X3.here hx rfl (hb hby d2_71) rfl k) ?_
          show Own.Fin p e below (T3.setTop (mkF m 72 #[.val (.int p1), .val (.ref a2), .val (.int p3), .val (.int p4), .val (.int (F_tab p1)), .unset] [(.int (p3 + (1 : Int32))), (.ref a2)])) _
          refine Own.ldB X3 hx hZ e3 VJ (hb hby d2_72) hat1 ?_
          intro u7 hu7
          obtain rfl : y1 = u7 := Value.int.inj (hy1.symm.trans hu7)
          show Own.Fin p e below (T3.setTop (mkF m 73 #[.val (.int p1), .val (.ref a2), .val (.int p3), .val (.int p4), .val (.int (F_tab p1)), .unset] [(.int y1)])) _
          refine Own.go (fun t k => XS.bipush X3.here hx rfl (hb hby d2_73) k) ?_
          show Own.Fin p e below (T3.setTop (mkF m 75 #[.val (.int p1), .val (.ref a2), .val (.int p3), .val (.int p4), .val (.int (F_tab p1)), .unset] [(.int (117 : Int32)), (.int y1)])) _
          by_cases hc75_7 : y1 = (117 : Int32)
          · skip
            refine Own.go (fun t k => XS.icmpNo X3.here hx rfl (hb hby d2_75) rfl (teq hc75_7).2 k) ?_
            show Own.Fin p e below (T3.setTop (mkF m 78 #[.val (.int p1), .val (.ref a2), .val (.int p3), .val (.int p4), .val (.int (F_tab p1)), .unset] [])) _
            refine Own.go (fun t k => XS.aloadN X3.here hx rfl (hb hby d2_78) rfl rfl k) ?_
            show Own.Fin p e below (T3.setTop (mkF m 79 #[.val (.int p1), .val (.ref a2), .val (.int p3), .val (.int p4), .val (.int (F_tab p1)), .unset] [(.ref a2)])) _
            refine Own.go (fun t k => XS.iloadN X3.here hx rfl (hb hby d2_79) rfl k) ?_
            show Own.Fin p e below (T3.setTop (mkF m 80 #[.val (.int p1), .val (.ref a2), .val (.int p3), .val (.int p4), .val (.int (F_tab p1)), .unset] [(.int p3), (.ref a2)])) _
            refine Own.go (fun t k => XS.iconst X3.here hx rfl (hb hby d2_80) k) ?_
            show Own.Fin p e below (T3.setTop (mkF m 81 #[.val (.int p1), .val (.ref a2), .val (.int p3), .val (.int p4), .val (.int (F_tab p1)), .unset] [(.int (2 : Int32)), (.int p3), (.ref a2)])) _
            refine Own.go (fun t k => XS.iadd X3.here hx rfl (hb hby d2_81) rfl k) ?_
            show Own.Fin p e below (T3.setTop (mkF m 82 #[.val (.int p1), .val (.ref a2), .val (.int p3), .val (.int p4), .val (.int (F_tab p1)), .unset] [(.int (p3 + (2 : Int32))), (.ref a2)])) _
            refine Own.ldB X3 hx hZ e3 VJ (hb hby d2_82) hat2 ?_
            intro u9 hu9
            obtain rfl : y2 = u9 := Value.int.inj (hy2.symm.trans hu9)
            show Own.Fin p e below (T3.setTop (mkF m 83 #[.val (.int p1), .val (.ref a2), .val (.int p3), .val (.int p4), .val (.int (F_tab p1)), .unset] [(.int y2)])) _
            refine Own.go (fun t k => XS.bipush X3.here hx rfl (hb hby d2_83) k) ?_
            show Own.Fin p e below (T3.setTop (mkF m 85 #[.val (.int p1), .val (.ref a2), .val (.int p3), .val (.int p4), .val (.int (F_tab p1)), .unset] [(.int (48 : Int32)), (.int y2)])) _
            by_cases hc85_9 : y2 = (48 : Int32)
            · skip
              refine Own.go (fun t k => XS.icmpNo X3.here hx rfl (hb hby d2_85) rfl (teq hc85_9).2 k) ?_
              show Own.Fin p e below (T3.setTop (mkF m 88 #[.val (.int p1), .val (.ref a2), .val (.int p3), .val (.int p4), .val (.int (F_tab p1)), .unset] [])) _
              refine Own.go (fun t k => XS.aloadN X3.here hx rfl (hb hby d2_88) rfl rfl k) ?_
              show Own.Fin p e below (T3.setTop (mkF m 89 #[.val (.int p1), .val (.ref a2), .val (.int p3), .val (.int p4), .val (.int (F_tab p1)), .unset] [(.ref a2)])) _
              refine Own.go (fun t k => XS.iloadN X3.here hx rfl (hb hby d2_89) rfl k) ?_
              show Own.Fin p e below (T3.setTop (mkF m 90 #[.val (.int p1), .val (.ref a2), .val (.int p3), .val (.int p4), .val (.int (F_tab p1)), .unset] [(.int p3), (.ref a2)])) _
              refine Own.go (fun t k => XS.iconst X3.here hx rfl (hb hby d2_90) k) ?_
              show Own.Fin p e below (T3.setTop (mkF m 91 #[.val (.int p1), .val (.ref a2), .val (.int p3), .val (.int p4), .val (.int (F_tab p1)), .unset] [(.int (3 : Int32)), (.int p3), (.ref a2)])) _
              refine Own.go (fun t k => XS.iadd X3.here hx rfl (hb hby d2_91) rfl k) ?_
              show Own.Fin p e below (T3.setTop (mkF m 92 #[.val (.int p1), .val (.ref a2), .val (.int p3), .val (.int p4), .val (.int (F_tab p1)), .unset] [(.int (p3 + (3 : Int32))), (.ref a2)])) _
              refine Own.ldB X3 hx hZ e3 VJ (hb hby d2_92) hat3 ?_
              intro u11 hu11
              obtain rfl : y3 = u11 := Value.int.inj (hy3.symm.trans hu11)
              show Own.Fin p e below (T3.setTop (mkF m 93 #[.val (.int p1), .val (.ref a2), .val (.int p3), .val (.int p4), .val (.int (F_tab p1)), .unset] [(.int y3)])) _
              refine Own.go (fun t k => XS.bipush X3.here hx rfl (hb hby d2_93) k) ?_
              show Own.Fin p e below (T3.setTop (mkF m 95 #[.val (.int p1), .val (.ref a2), .val (.int p3), .val (.int p4), .val (.int (F_tab p1)), .unset] [(.int (48 : Int32)), (.int y3)])) _
              by_cases hc95_11 : y3 = (48 : Int32)
              · skip
                refine Own.go (fun t k => XS.icmpNo X3.here hx rfl (hb hby d2_95) rfl (teq hc95_11).2 k) ?_
                show Own.Fin p e below (T3.setTop (mkF m 98 #[.val (.int p1), .val (.ref a2), .val (.int p3), .val (.int p4), .val (.int (F_tab p1)), .unset] [])) _
                refine Own.go (fun t k => XS.aloadN X3.here hx rfl (hb hby d2_98) rfl rfl k) ?_
                show Own.Fin p e below (T3.setTop (mkF m 99 #[.val (.int p1), .val (.ref a2), .val (.int p3), .val (.int p4), .val (.int (F_tab p1)), .unset] [(.ref a2)])) _
                refine Own.go (fun t k => XS.iloadN X3.here hx rfl (hb hby d2_99) rfl k) ?_
                show Own.Fin p e below (T3.setTop (mkF m 100 #[.val (.int p1), .val (.ref a2), .val (.int p3), .val (.int p4), .val (.int (F_tab p1)), .unset] [(.int p3), (.ref a2)])) _
                refine Own.go (fun t k => XS.iconst X3.here hx rfl (hb hby d2_100) k) ?_
                show Own.Fin p e below (T3.setTop (mkF m 101 #[.val (.int p1), .val (.ref a2), .val (.int p3), .val (.int p4), .val (.int (F_tab p1)), .unset] [(.int (4 : Int32)), (.int p3), (.ref a2)])) _
                refine Own.go (fun t k => XS.iadd X3.here hx rfl (hb hby d2_101) rfl k) ?_
                show Own.Fin p e below (T3.setTop (mkF m 102 #[.val (.int p1), .val (.ref a2), .val (.int p3), .val (.int p4), .val (.int (F_tab p1)), .unset] [(.int (p3 + (4 : Int32))), (.ref a2)])) _
                refine Own.ldB X3 hx hZ e3 VJ (hb hby d2_102) hat4 ?_
                intro u13 hu13
                obtain rfl : y4 = u13 := Value.int.inj (hy4.symm.trans hu13)
                show Own.Fin p e below (T3.setTop (mkF m 103 #[.val (.int p1), .val (.ref a2), .val (.int p3), .val (.int p4), .val (.int (F_tab p1)), .unset] [(.int y4)])) _
                obtain ⟨T14, X14, e14, st14⟩ := getS2 X3 hx hZ hown (host := "") (Or.inl (hw _ (List.mem_of_getElem? (i := 21) rfl))) Via.refl e3 (SH.ext O0.2) (g := (mkF m 103 #[.val (.int p1), .val (.ref a2), .val (.int p3), .val (.int p4), .val (.int (F_tab p1)), .unset] [(.int y4)])) rfl (hb hby d2_103)
                refine Own.go st14 ?_
                show Own.Fin p e below (T14.setTop (mkF m 106 #[.val (.int p1), .val (.ref a2), .val (.int p3), .val (.int p4), .val (.int (F_tab p1)), .unset] [(.ref ah), (.int y4)])) _
                refine Own.go (fun t k => XS.iloadN X14.here hx rfl (hb hby d2_106) rfl k) ?_
                show Own.Fin p e below (T14.setTop (mkF m 107 #[.val (.int p1), .val (.ref a2), .val (.int p3), .val (.int p4), .val (.int (F_tab p1)), .unset] [(.int p1), (.ref ah), (.int y4)])) _
                refine Own.go (fun t k => XS.iconst X14.here hx rfl (hb hby d2_107) k) ?_
                show Own.Fin p e below (T14.setTop (mkF m 108 #[.val (.int p1), .val (.ref a2), .val (.int p3), .val (.int p4), .val (.int (F_tab p1)), .unset] [(.int (4 : Int32)), (.int p1), (.ref ah), (.int y4)])) _
                refine Own.go (fun t k => XS.ishr X14.here hx rfl (hb hby d2_108) rfl k) ?_
                show Own.Fin p e below (T14.setTop (mkF m 109 #[.val (.int p1), .val (.ref a2), .val (.int p3), .val (.int p4), .val (.int (F_tab p1)), .unset] [(.int ((p1 >>> ((4 : Int32) &&& 31)))), (.ref ah), (.int y4)])) _
                have h32 : p1 < (32 : Int32) := own_117 p1 hc34_4
                refine Own.ldBc X14 hx hZ e14 (AH.ext O0.2) (hb hby d2_109) (own_inb nH (z := (16 : Int32)) (by decide) (own_sh4 p1 hp1 h32)) (tH _ (own_sh4 p1 hp1 h32).1 (own_sh4 p1 hp1 h32).2) ?_
                show Own.Fin p e below (T14.setTop (mkF m 110 #[.val (.int p1), .val (.ref a2), .val (.int p3), .val (.int p4), .val (.int (F_tab p1)), .unset] [(.int (F_hl ((p1 >>> ((4 : Int32) &&& 31))))), (.int y4)])) _
                by_cases hc110_14 : y4 = (F_hl ((p1 >>> ((4 : Int32) &&& 31))))
                · skip
                  refine Own.go (fun t k => XS.icmpNo X14.here hx rfl (hb hby d2_110) rfl (teq hc110_14).2 k) ?_
                  show Own.Fin p e below (T14.setTop (mkF m 113 #[.val (.int p1), .val (.ref a2), .val (.int p3), .val (.int p4), .val (.int (F_tab p1)), .unset] [])) _
                  refine Own.go (fun t k => XS.aloadN X14.here hx rfl (hb hby d2_113) rfl rfl k) ?_
                  show Own.Fin p e below (T14.setTop (mkF m 114 #[.val (.int p1), .val (.ref a2), .val (.int p3), .val (.int p4), .val (.int (F_tab p1)), .unset] [(.ref a2)])) _
                  refine Own.go (fun t k => XS.iloadN X14.here hx rfl (hb hby d2_114) rfl k) ?_
                  show Own.Fin p e below (T14.setTop (mkF m 115 #[.val (.int p1), .val (.ref a2), .val (.int p3), .val (.int p4), .val (.int (F_tab p1)), .unset] [(.int p3), (.ref a2)])) _
                  refine Own.go (fun t k => XS.iconst X14.here hx rfl (hb hby d2_115) k) ?_
                  show Own.Fin p e below (T14.setTop (mkF m 116 #[.val (.int p1), .val (.ref a2), .val (.int p3), .val (.int p4), .val (.int (F_tab p1)), .unset] [(.int (5 : Int32)), (.int p3), (.ref a2)])) _
                  refine Own.go (fun t k => XS.iadd X14.here hx rfl (hb hby d2_116) rfl k) ?_
                  show Own.Fin p e below (T14.setTop (mkF m 117 #[.val (.int p1), .val (.ref a2), .val (.int p3), .val (.int p4), .val (.int (F_tab p1)), .unset] [(.int (p3 + (5 : Int32))), (.ref a2)])) _
                  refine Own.ldB X14 hx hZ e14 VJ (hb hby d2_117) hat5 ?_
                  intro u16 hu16
                  obtain rfl : y5 = u16 := Value.int.inj (hy5.symm.trans hu16)
                  show Own.Fin p e below (T14.setTop (mkF m 118 #[.val (.int p1), .val (.ref a2), .val (.int p3), .val (.int p4), .val (.int (F_tab p1)), .unset] [(.int y5)])) _
                  obtain ⟨T17, X17, e17, st17⟩ := getS2 X14 hx hZ hown (host := "") (Or.inl (hw _ (List.mem_of_getElem? (i := 21) rfl))) Via.refl e14 (SH.ext O0.2) (g := (mkF m 118 #[.val (.int p1), .val (.ref a2), .val (.int p3), .val (.int p4), .val (.int (F_tab p1)), .unset] [(.int y5)])) rfl (hb hby d2_118)
                  refine Own.go st17 ?_
                  show Own.Fin p e below (T17.setTop (mkF m 121 #[.val (.int p1), .val (.ref a2), .val (.int p3), .val (.int p4), .val (.int (F_tab p1)), .unset] [(.ref ah), (.int y5)])) _
                  refine Own.go (fun t k => XS.iloadN X17.here hx rfl (hb hby d2_121) rfl k) ?_
                  show Own.Fin p e below (T17.setTop (mkF m 122 #[.val (.int p1), .val (.ref a2), .val (.int p3), .val (.int p4), .val (.int (F_tab p1)), .unset] [(.int p1), (.ref ah), (.int y5)])) _
                  refine Own.go (fun t k => XS.bipush X17.here hx rfl (hb hby d2_122) k) ?_
                  show Own.Fin p e below (T17.setTop (mkF m 124 #[.val (.int p1), .val (.ref a2), .val (.int p3), .val (.int p4), .val (.int (F_tab p1)), .unset] [(.int (15 : Int32)), (.int p1), (.ref ah), (.int y5)])) _
                  refine Own.go (fun t k => XS.iand X17.here hx rfl (hb hby d2_124) rfl k) ?_
                  show Own.Fin p e below (T17.setTop (mkF m 125 #[.val (.int p1), .val (.ref a2), .val (.int p3), .val (.int p4), .val (.int (F_tab p1)), .unset] [(.int (p1 &&& (15 : Int32))), (.ref ah), (.int y5)])) _
                  have h32 : p1 < (32 : Int32) := own_117 p1 hc34_4
                  refine Own.ldBc X17 hx hZ e17 (AH.ext O0.2) (hb hby d2_125) (own_inb nH (z := (16 : Int32)) (by decide) (own_an15 p1)) (tH _ (own_an15 p1).1 (own_an15 p1).2) ?_
                  show Own.Fin p e below (T17.setTop (mkF m 126 #[.val (.int p1), .val (.ref a2), .val (.int p3), .val (.int p4), .val (.int (F_tab p1)), .unset] [(.int (F_hl (p1 &&& (15 : Int32)))), (.int y5)])) _
                  by_cases hc126_17 : y5 = (F_hl (p1 &&& (15 : Int32)))
                  · skip
                    refine Own.go (fun t k => XS.icmpNo X17.here hx rfl (hb hby d2_126) rfl (teq hc126_17).2 k) ?_
                    show Own.Fin p e below (T17.setTop (mkF m 129 #[.val (.int p1), .val (.ref a2), .val (.int p3), .val (.int p4), .val (.int (F_tab p1)), .unset] [])) _
                    refine Own.go (fun t k => XS.iconst X17.here hx rfl (hb hby d2_129) k) ?_
                    show Own.Fin p e below (T17.setTop (mkF m 130 #[.val (.int p1), .val (.ref a2), .val (.int p3), .val (.int p4), .val (.int (F_tab p1)), .unset] [(.int (1 : Int32))])) _
                    refine Own.go (fun t k => XS.goto X17.here hx rfl (pc0 := 130) (pc' := 134) rfl (hb hby d2_130) (by decide) (by decide) k) ?_
                    show Own.Fin p e below (T17.setTop (mkF m 134 #[.val (.int p1), .val (.ref a2), .val (.int p3), .val (.int p4), .val (.int (F_tab p1)), .unset] [(.int (1 : Int32))])) _
                    refine Own.go (fun t k => XS.istore X17.here hx rfl (hb hby d2_134) rfl (l' := #[.val (.int p1), .val (.ref a2), .val (.int p3), .val (.int p4), .val (.int (F_tab p1)), .val (.int (1 : Int32))]) rfl k) ?_
                    show Own.Fin p e below (T17.setTop (mkF m 136 #[.val (.int p1), .val (.ref a2), .val (.int p3), .val (.int p4), .val (.int (F_tab p1)), .val (.int (1 : Int32))] [])) _
                    refine Own.go (fun t k => XS.iload X17.here hx rfl (hb hby d2_136) rfl k) ?_
                    show Own.Fin p e below (T17.setTop (mkF m 138 #[.val (.int p1), .val (.ref a2), .val (.int p3), .val (.int p4), .val (.int (F_tab p1)), .val (.int (1 : Int32))] [(.int (1 : Int32))])) _
                    refine Own.retN X17 hx Bd.notSynchronized (t := .boolean) Bd.returns (by simp) (hb hby d2_138) (by decide) (by decide) ?_
                    exact ⟨by rw [show F_esc p1 p4 y1 y2 y3 y4 y5 = (1 : Int32) by rw [F_esc, hk, if_neg hc21_3, if_pos hc34_4, if_pos hc65_5, if_pos hc75_7, if_pos hc85_9, if_pos hc95_11, if_pos hc110_14, if_pos hc126_17]]; rfl, N0, e17⟩
                  · skip
                    refine Own.go (fun t k => XS.icmpYes X17.here hx rfl (pc0 := 126) (pc' := 133) rfl (hb hby d2_126) rfl (feq hc126_17).2 (by decide) (by decide) k) ?_
                    show Own.Fin p e below (T17.setTop (mkF m 133 #[.val (.int p1), .val (.ref a2), .val (.int p3), .val (.int p4), .val (.int (F_tab p1)), .unset] [])) _
                    refine Own.go (fun t k => XS.iconst X17.here hx rfl (hb hby d2_133) k) ?_
                    show Own.Fin p e below (T17.setTop (mkF m 134 #[.val (.int p1), .val (.ref a2), .val (.int p3), .val (.int p4), .val (.int (F_tab p1)), .unset] [(.int (0 : Int32))])) _
                    refine Own.go (fun t k => XS.istore X17.here hx rfl (hb hby d2_134) rfl (l' := #[.val (.int p1), .val (.ref a2), .val (.int p3), .val (.int p4), .val (.int (F_tab p1)), .val (.int (0 : Int32))]) rfl k) ?_
                    show Own.Fin p e below (T17.setTop (mkF m 136 #[.val (.int p1), .val (.ref a2), .val (.int p3), .val (.int p4), .val (.int (F_tab p1)), .val (.int (0 : Int32))] [])) _
                    refine Own.go (fun t k => XS.iload X17.here hx rfl (hb hby d2_136) rfl k) ?_
                    show Own.Fin p e below (T17.setTop (mkF m 138 #[.val (.int p1), .val (.ref a2), .val (.int p3), .val (.int p4), .val (.int (F_tab p1)), .val (.int (0 : Int32))] [(.int (0 : Int32))])) _
                    refine Own.retN X17 hx Bd.notSynchronized (t := .boolean) Bd.returns (by simp) (hb hby d2_138) (by decide) (by decide) ?_
                    exact ⟨by rw [show F_esc p1 p4 y1 y2 y3 y4 y5 = (0 : Int32) by rw [F_esc, hk, if_neg hc21_3, if_pos hc34_4, if_pos hc65_5, if_pos hc75_7, if_pos hc85_9, if_pos hc95_11, if_pos hc110_14, if_neg hc126_17]]; rfl, N0, e17⟩
                · skip
                  refine Own.go (fun t k => XS.icmpYes X14.here hx rfl (pc0 := 110) (pc' := 133) rfl (hb hby d2_110) rfl (feq hc110_14).2 (by decide) (by decide) k) ?_
                  show Own.Fin p e below (T14.setTop (mkF m 133 #[.val (.int p1), .val (.ref a2), .val (.int p3), .val (.int p4), .val (.int (F_tab p1)), .unset] [])) _
                  refine Own.go (fun t k => XS.iconst X14.here hx rfl (hb hby d2_133) k) ?_
                  show Own.Fin p e below (T14.setTop (mkF m 134 #[.val (.int p1), .val (.ref a2), .val (.int p3), .val (.int p4), .val (.int (F_tab p1)), .unset] [(.int (0 : Int32))])) _
                  refine Own.go (fun t k => XS.istore X14.here hx rfl (hb hby d2_134) rfl (l' := #[.val (.int p1), .val (.ref a2), .val (.int p3), .val (.int p4), .val (.int (F_tab p1)), .val (.int (0 : Int32))]) rfl k) ?_
                  show Own.Fin p e below (T14.setTop (mkF m 136 #[.val (.int p1), .val (.ref a2), .val (.int p3), .val (.int p4), .val (.int (F_tab p1)), .val (.int (0 : Int32))] [])) _
                  refine Own.go (fun t k => XS.iload X14.here hx rfl (hb hby d2_136) rfl k) ?_
                  show Own.Fin p e below (T14.setTop (mkF m 138 #[.val (.int p1), .val (.ref a2), .val (.int p3), .val (.int p4), .val (.int (F_tab p1)), .val (.int (0 : Int32))] [(.int (0 : Int32))])) _
                  refine Own.retN X14 hx Bd.notSynchronized (t := .boolean) Bd.returns (by simp) (hb hby d2_138) (by decide) (by decide) ?_
                  exact ⟨by rw [show F_esc p1 p4 y1 y2 y3 y4 y5 = (0 : Int32) by rw [F_esc, hk, if_neg hc21_3, if_pos hc34_4, if_pos hc65_5, if_pos hc75_7, if_pos hc85_9, if_pos hc95_11, if_neg hc110_14]]; rfl, N0, e14⟩
              · skip
                refine Own.go (fun t k => XS.icmpYes X3.here hx rfl (pc0 := 95) (pc' := 133) rfl (hb hby d2_95) rfl (feq hc95_11).2 (by decide) (by decide) k) ?_
                show Own.Fin p e below (T3.setTop (mkF m 133 #[.val (.int p1), .val (.ref a2), .val (.int p3), .val (.int p4), .val (.int (F_tab p1)), .unset] [])) _
                refine Own.go (fun t k => XS.iconst X3.here hx rfl (hb hby d2_133) k) ?_
                show Own.Fin p e below (T3.setTop (mkF m 134 #[.val (.int p1), .val (.ref a2), .val (.int p3), .val (.int p4), .val (.int (F_tab p1)), .unset] [(.int (0 : Int32))])) _
                refine Own.go (fun t k => XS.istore X3.here hx rfl (hb hby d2_134) rfl (l' := #[.val (.int p1), .val (.ref a2), .val (.int p3), .val (.int p4), .val (.int (F_tab p1)), .val (.int (0 : Int32))]) rfl k) ?_
                show Own.Fin p e below (T3.setTop (mkF m 136 #[.val (.int p1), .val (.ref a2), .val (.int p3), .val (.int p4), .val (.int (F_tab p1)), .val (.int (0 : Int32))] [])) _
                refine Own.go (fun t k => XS.iload X3.here hx rfl (hb hby d2_136) rfl k) ?_
                show Own.Fin p e below (T3.setTop (mkF m 138 #[.val (.int p1), .val (.ref a2), .val (.int p3), .val (.int p4), .val (.int (F_tab p1)), .val (.int (0 : Int32))] [(.int (0 : Int32))])) _
                refine Own.retN X3 hx Bd.notSynchronized (t := .boolean) Bd.returns (by simp) (hb hby d2_138) (by decide) (by decide) ?_
                exact ⟨by rw [show F_esc p1 p4 y1 y2 y3 y4 y5 = (0 : Int32) by rw [F_esc, hk, if_neg hc21_3, if_pos hc34_4, if_pos hc65_5, if_pos hc75_7, if_pos hc85_9, if_neg hc95_11]]; rfl, N0, e3⟩
            · skip
              refine Own.go (fun t k => XS.icmpYes X3.here hx rfl (pc0 := 85) (pc' := 133) rfl (hb hby d2_85) rfl (feq hc85_9).2 (by decide) (by decide) k) ?_
              show Own.Fin p e below (T3.setTop (mkF m 133 #[.val (.int p1), .val (.ref a2), .val (.int p3), .val (.int p4), .val (.int (F_tab p1)), .unset] [])) _
              refine Own.go (fun t k => XS.iconst X3.here hx rfl (hb hby d2_133) k) ?_
              show Own.Fin p e below (T3.setTop (mkF m 134 #[.val (.int p1), .val (.ref a2), .val (.int p3), .val (.int p4), .val (.int (F_tab p1)), .unset] [(.int (0 : Int32))])) _
              refine Own.go (fun t k => XS.istore X3.here hx rfl (hb hby d2_134) rfl (l' := #[.val (.int p1), .val (.ref a2), .val (.int p3), .val (.int p4), .val (.int (F_tab p1)), .val (.int (0 : Int32))]) rfl k) ?_
              show Own.Fin p e below (T3.setTop (mkF m 136 #[.val (.int p1), .val (.ref a2), .val (.int p3), .val (.int p4), .val (.int (F_tab p1)), .val (.int (0 : Int32))] [])) _
              refine Own.go (fun t k => XS.iload X3.here hx rfl (hb hby d2_136) rfl k) ?_
              show Own.Fin p e below (T3.setTop (mkF m 138 #[.val (.int p1), .val (.ref a2), .val (.int p3), .val (.int p4), .val (.int (F_tab p1)), .val (.int (0 : Int32))] [(.int (0 : Int32))])) _
              refine Own.retN X3 hx Bd.notSynchronized (t := .boolean) Bd.returns (by simp) (hb hby d2_138) (by decide) (by decide) ?_
              exact ⟨by rw [show F_esc p1 p4 y1 y2 y3 y4 y5 = (0 : Int32) by rw [F_esc, hk, if_neg hc21_3, if_pos hc34_4, if_pos hc65_5, if_pos hc75_7, if_neg hc85_9]]; rfl, N0, e3⟩
          · skip
            refine Own.go (fun t k => XS.icmpYes X3.here hx rfl (pc0 := 75) (pc' := 133) rfl (hb hby d2_75) rfl (feq hc75_7).2 (by decide) (by decide) k) ?_
            show Own.Fin p e below (T3.setTop (mkF m 133 #[.val (.int p1), .val (.ref a2), .val (.int p3), .val (.int p4), .val (.int (F_tab p1)), .unset] [])) _
            refine Own.go (fun t k => XS.iconst X3.here hx rfl (hb hby d2_133) k) ?_
            show Own.Fin p e below (T3.setTop (mkF m 134 #[.val (.int p1), .val (.ref a2), .val (.int p3), .val (.int p4), .val (.int (F_tab p1)), .unset] [(.int (0 : Int32))])) _
            refine Own.go (fun t k => XS.istore X3.here hx rfl (hb hby d2_134) rfl (l' := #[.val (.int p1), .val (.ref a2), .val (.int p3), .val (.int p4), .val (.int (F_tab p1)), .val (.int (0 : Int32))]) rfl k) ?_
            show Own.Fin p e below (T3.setTop (mkF m 136 #[.val (.int p1), .val (.ref a2), .val (.int p3), .val (.int p4), .val (.int (F_tab p1)), .val (.int (0 : Int32))] [])) _
            refine Own.go (fun t k => XS.iload X3.here hx rfl (hb hby d2_136) rfl k) ?_
            show Own.Fin p e below (T3.setTop (mkF m 138 #[.val (.int p1), .val (.ref a2), .val (.int p3), .val (.int p4), .val (.int (F_tab p1)), .val (.int (0 : Int32))] [(.int (0 : Int32))])) _
            refine Own.retN X3 hx Bd.notSynchronized (t := .boolean) Bd.returns (by simp) (hb hby d2_138) (by decide) (by decide) ?_
            exact ⟨by rw [show F_esc p1 p4 y1 y2 y3 y4 y5 = (0 : Int32) by rw [F_esc, hk, if_neg hc21_3, if_pos hc34_4, if_pos hc65_5, if_neg hc75_7]]; rfl, N0, e3⟩
        · skip
          refine Own.go (fun t k => XS.icmpYes X3.here hx rfl (pc0 := 65) (pc' := 133) rfl (hb hby d2_65) rfl (feq hc65_5).2 (by decide) (by decide) k) ?_
          show Own.Fin p e below (T3.setTop (mkF m 133 #[.val (.int p1), .val (.ref a2), .val (.int p3), .val (.int p4), .val (.int (F_tab p1)), .unset] [])) _
          refine Own.go (fun t k => XS.iconst X3.here hx rfl (hb hby d2_133) k) ?_
          show Own.Fin p e below (T3.setTop (mkF m 134 #[.val (.int p1), .val (.ref a2), .val (.int p3), .val (.int p4), .val (.int (F_tab p1)), .unset] [(.int (0 : Int32))])) _
          refine Own.go (fun t k => XS.istore X3.here hx rfl (hb hby d2_134) rfl (l' := #[.val (.int p1), .val (.ref a2), .val (.int p3), .val (.int p4), .val (.int (F_tab p1)), .val (.int (0 : Int32))]) rfl k) ?_
          show Own.Fin p e below (T3.setTop (mkF m 136 #[.val (.int p1), .val (.ref a2), .val (.int p3), .val (.int p4), .val (.int (F_tab p1)), .val (.int (0 : Int32))] [])) _
          refine Own.go (fun t k => XS.iload X3.here hx rfl (hb hby d2_136) rfl k) ?_
          show Own.Fin p e below (T3.setTop (mkF m 138 #[.val (.int p1), .val (.ref a2), .val (.int p3), .val (.int p4), .val (.int (F_tab p1)), .val (.int (0 : Int32))] [(.int (0 : Int32))])) _
          refine Own.retN X3 hx Bd.notSynchronized (t := .boolean) Bd.returns (by simp) (hb hby d2_138) (by decide) (by decide) ?_
          exact ⟨by rw [show F_esc p1 p4 y1 y2 y3 y4 y5 = (0 : Int32) by rw [F_esc, hk, if_neg hc21_3, if_pos hc34_4, if_neg hc65_5]]; rfl, N0, e3⟩
      · skip
        refine Own.go (fun t k => XS.icmpNo X3.here hx rfl (hb hby d2_34) rfl (feq hc34_4).1 k) ?_
        show Own.Fin p e below (T3.setTop (mkF m 37 #[.val (.int p1), .val (.ref a2), .val (.int p3), .val (.int p4), .val (.int (F_tab p1)), .unset] [])) _
        refine Own.go (fun t k => XS.iloadN X3.here hx rfl (hb hby d2_37) rfl k) ?_
        show Own.Fin p e below (T3.setTop (mkF m 38 #[.val (.int p1), .val (.ref a2), .val (.int p3), .val (.int p4), .val (.int (F_tab p1)), .unset] [(.int p4)])) _
        refine Own.go (fun t k => XS.iconst X3.here hx rfl (hb hby d2_38) k) ?_
        show Own.Fin p e below (T3.setTop (mkF m 39 #[.val (.int p1), .val (.ref a2), .val (.int p3), .val (.int p4), .val (.int (F_tab p1)), .unset] [(.int (2 : Int32)), (.int p4)])) _
        by_cases hc39_18 : p4 = (2 : Int32)
        · skip
          refine Own.go (fun t k => XS.icmpNo X3.here hx rfl (hb hby d2_39) rfl (teq hc39_18).2 k) ?_
          show Own.Fin p e below (T3.setTop (mkF m 42 #[.val (.int p1), .val (.ref a2), .val (.int p3), .val (.int p4), .val (.int (F_tab p1)), .unset] [])) _
          refine Own.go (fun t k => XS.aloadN X3.here hx rfl (hb hby d2_42) rfl rfl k) ?_
          show Own.Fin p e below (T3.setTop (mkF m 43 #[.val (.int p1), .val (.ref a2), .val (.int p3), .val (.int p4), .val (.int (F_tab p1)), .unset] [(.ref a2)])) _
          refine Own.go (fun t k => XS.iloadN X3.here hx rfl (hb hby d2_43) rfl k) ?_
          show Own.Fin p e below (T3.setTop (mkF m 44 #[.val (.int p1), .val (.ref a2), .val (.int p3), .val (.int p4), .val (.int (F_tab p1)), .unset] [(.int p3), (.ref a2)])) _
          refine Own.go (fun t k => XS.iconst X3.here hx rfl (hb hby d2_44) k) ?_
          show Own.Fin p e below (T3.setTop (mkF m 45 #[.val (.int p1), .val (.ref a2), .val (.int p3), .val (.int p4), .val (.int (F_tab p1)), .unset] [(.int (1 : Int32)), (.int p3), (.ref a2)])) _
          refine Own.go (fun t k => XS.iadd X3.here hx rfl (hb hby d2_45) rfl k) ?_
          show Own.Fin p e below (T3.setTop (mkF m 46 #[.val (.int p1), .val (.ref a2), .val (.int p3), .val (.int p4), .val (.int (F_tab p1)), .unset] [(.int (p3 + (1 : Int32))), (.ref a2)])) _
          refine Own.ldB X3 hx hZ e3 VJ (hb hby d2_46) hat1 ?_
          intro u20 hu20
          obtain rfl : y1 = u20 := Value.int.inj (hy1.symm.trans hu20)
          show Own.Fin p e below (T3.setTop (mkF m 47 #[.val (.int p1), .val (.ref a2), .val (.int p3), .val (.int p4), .val (.int (F_tab p1)), .unset] [(.int y1)])) _
          refine Own.go (fun t k => XS.iload X3.here hx rfl (hb hby d2_47) rfl k) ?_
          show Own.Fin p e below (T3.setTop (mkF m 49 #[.val (.int p1), .val (.ref a2), .val (.int p3), .val (.int p4), .val (.int (F_tab p1)), .unset] [(.int (F_tab p1)), (.int y1)])) _
          by_cases hc49_20 : y1 = (F_tab p1)
          · skip
            refine Own.go (fun t k => XS.icmpNo X3.here hx rfl (hb hby d2_49) rfl (teq hc49_20).2 k) ?_
            show Own.Fin p e below (T3.setTop (mkF m 52 #[.val (.int p1), .val (.ref a2), .val (.int p3), .val (.int p4), .val (.int (F_tab p1)), .unset] [])) _
            refine Own.go (fun t k => XS.iconst X3.here hx rfl (hb hby d2_52) k) ?_
            show Own.Fin p e below (T3.setTop (mkF m 53 #[.val (.int p1), .val (.ref a2), .val (.int p3), .val (.int p4), .val (.int (F_tab p1)), .unset] [(.int (1 : Int32))])) _
            refine Own.go (fun t k => XS.goto X3.here hx rfl (pc0 := 53) (pc' := 57) rfl (hb hby d2_53) (by decide) (by decide) k) ?_
            show Own.Fin p e below (T3.setTop (mkF m 57 #[.val (.int p1), .val (.ref a2), .val (.int p3), .val (.int p4), .val (.int (F_tab p1)), .unset] [(.int (1 : Int32))])) _
            refine Own.go (fun t k => XS.istore X3.here hx rfl (hb hby d2_57) rfl (l' := #[.val (.int p1), .val (.ref a2), .val (.int p3), .val (.int p4), .val (.int (F_tab p1)), .val (.int (1 : Int32))]) rfl k) ?_
            show Own.Fin p e below (T3.setTop (mkF m 59 #[.val (.int p1), .val (.ref a2), .val (.int p3), .val (.int p4), .val (.int (F_tab p1)), .val (.int (1 : Int32))] [])) _
            refine Own.go (fun t k => XS.goto X3.here hx rfl (pc0 := 59) (pc' := 136) rfl (hb hby d2_59) (by decide) (by decide) k) ?_
            show Own.Fin p e below (T3.setTop (mkF m 136 #[.val (.int p1), .val (.ref a2), .val (.int p3), .val (.int p4), .val (.int (F_tab p1)), .val (.int (1 : Int32))] [])) _
            refine Own.go (fun t k => XS.iload X3.here hx rfl (hb hby d2_136) rfl k) ?_
            show Own.Fin p e below (T3.setTop (mkF m 138 #[.val (.int p1), .val (.ref a2), .val (.int p3), .val (.int p4), .val (.int (F_tab p1)), .val (.int (1 : Int32))] [(.int (1 : Int32))])) _
            refine Own.retN X3 hx Bd.notSynchronized (t := .boolean) Bd.returns (by simp) (hb hby d2_138) (by decide) (by decide) ?_
            exact ⟨by rw [show F_esc p1 p4 y1 y2 y3 y4 y5 = (1 : Int32) by rw [F_esc, hk, if_neg hc21_3, if_neg hc34_4, if_pos hc39_18, if_pos hc49_20]]; rfl, N0, e3⟩
          · skip
            refine Own.go (fun t k => XS.icmpYes X3.here hx rfl (pc0 := 49) (pc' := 56) rfl (hb hby d2_49) rfl (feq hc49_20).2 (by decide) (by decide) k) ?_
            show Own.Fin p e below (T3.setTop (mkF m 56 #[.val (.int p1), .val (.ref a2), .val (.int p3), .val (.int p4), .val (.int (F_tab p1)), .unset] [])) _
            refine Own.go (fun t k => XS.iconst X3.here hx rfl (hb hby d2_56) k) ?_
            show Own.Fin p e below (T3.setTop (mkF m 57 #[.val (.int p1), .val (.ref a2), .val (.int p3), .val (.int p4), .val (.int (F_tab p1)), .unset] [(.int (0 : Int32))])) _
            refine Own.go (fun t k => XS.istore X3.here hx rfl (hb hby d2_57) rfl (l' := #[.val (.int p1), .val (.ref a2), .val (.int p3), .val (.int p4), .val (.int (F_tab p1)), .val (.int (0 : Int32))]) rfl k) ?_
            show Own.Fin p e below (T3.setTop (mkF m 59 #[.val (.int p1), .val (.ref a2), .val (.int p3), .val (.int p4), .val (.int (F_tab p1)), .val (.int (0 : Int32))] [])) _
            refine Own.go (fun t k => XS.goto X3.here hx rfl (pc0 := 59) (pc' := 136) rfl (hb hby d2_59) (by decide) (by decide) k) ?_
            show Own.Fin p e below (T3.setTop (mkF m 136 #[.val (.int p1), .val (.ref a2), .val (.int p3), .val (.int p4), .val (.int (F_tab p1)), .val (.int (0 : Int32))] [])) _
            refine Own.go (fun t k => XS.iload X3.here hx rfl (hb hby d2_136) rfl k) ?_
            show Own.Fin p e below (T3.setTop (mkF m 138 #[.val (.int p1), .val (.ref a2), .val (.int p3), .val (.int p4), .val (.int (F_tab p1)), .val (.int (0 : Int32))] [(.int (0 : Int32))])) _
            refine Own.retN X3 hx Bd.notSynchronized (t := .boolean) Bd.returns (by simp) (hb hby d2_138) (by decide) (by decide) ?_
            exact ⟨by rw [show F_esc p1 p4 y1 y2 y3 y4 y5 = (0 : Int32) by rw [F_esc, hk, if_neg hc21_3, if_neg hc34_4, if_pos hc39_18, if_neg hc49_20]]; rfl, N0, e3⟩
        · skip
          refine Own.go (fun t k => XS.icmpYes X3.here hx rfl (pc0 := 39) (pc' := 56) rfl (hb hby d2_39) rfl (feq hc39_18).2 (by decide) (by decide) k) ?_
          show Own.Fin p e below (T3.setTop (mkF m 56 #[.val (.int p1), .val (.ref a2), .val (.int p3), .val (.int p4), .val (.int (F_tab p1)), .unset] [])) _
          refine Own.go (fun t k => XS.iconst X3.here hx rfl (hb hby d2_56) k) ?_
          show Own.Fin p e below (T3.setTop (mkF m 57 #[.val (.int p1), .val (.ref a2), .val (.int p3), .val (.int p4), .val (.int (F_tab p1)), .unset] [(.int (0 : Int32))])) _
          refine Own.go (fun t k => XS.istore X3.here hx rfl (hb hby d2_57) rfl (l' := #[.val (.int p1), .val (.ref a2), .val (.int p3), .val (.int p4), .val (.int (F_tab p1)), .val (.int (0 : Int32))]) rfl k) ?_
          show Own.Fin p e below (T3.setTop (mkF m 59 #[.val (.int p1), .val (.ref a2), .val (.int p3), .val (.int p4), .val (.int (F_tab p1)), .val (.int (0 : Int32))] [])) _
          refine Own.go (fun t k => XS.goto X3.here hx rfl (pc0 := 59) (pc' := 136) rfl (hb hby d2_59) (by decide) (by decide) k) ?_
          show Own.Fin p e below (T3.setTop (mkF m 136 #[.val (.int p1), .val (.ref a2), .val (.int p3), .val (.int p4), .val (.int (F_tab p1)), .val (.int (0 : Int32))] [])) _
          refine Own.go (fun t k => XS.iload X3.here hx rfl (hb hby d2_136) rfl k) ?_
          show Own.Fin p e below (T3.setTop (mkF m 138 #[.val (.int p1), .val (.ref a2), .val (.int p3), .val (.int p4), .val (.int (F_tab p1)), .val (.int (0 : Int32))] [(.int (0 : Int32))])) _
          refine Own.retN X3 hx Bd.notSynchronized (t := .boolean) Bd.returns (by simp) (hb hby d2_138) (by decide) (by decide) ?_
          exact ⟨by rw [show F_esc p1 p4 y1 y2 y3 y4 y5 = (0 : Int32) by rw [F_esc, hk, if_neg hc21_3, if_neg hc34_4, if_neg hc39_18]]; rfl, N0, e3⟩
  · skip
    refine Own.go (fun t k => XS.icmpYes X1.here hx rfl (pc0 := 5) (pc' := 16) rfl (hb hby d2_5) rfl (flt hc5_1).2.1 (by decide) (by decide) k) ?_
    show Own.Fin p e below (T1.setTop (mkF m 16 #[.val (.int p1), .val (.ref a2), .val (.int p3), .val (.int p4), .unset, .unset] [])) _
    refine Own.go (fun t k => XS.iconst X1.here hx rfl (hb hby d2_16) k) ?_
    show Own.Fin p e below (T1.setTop (mkF m 17 #[.val (.int p1), .val (.ref a2), .val (.int p3), .val (.int p4), .unset, .unset] [(.int (0 : Int32))])) _
    have hk : F_key p1 = (0 : Int32) := by simp only [F_key, hc5_1, if_true, if_false]
    refine Own.go (fun t k => XS.istore X1.here hx rfl (hb hby d2_17) rfl (l' := #[.val (.int p1), .val (.ref a2), .val (.int p3), .val (.int p4), .val (.int (0 : Int32)), .unset]) rfl k) ?_
    show Own.Fin p e below (T1.setTop (mkF m 19 #[.val (.int p1), .val (.ref a2), .val (.int p3), .val (.int p4), .val (.int (0 : Int32)), .unset] [])) _
    refine Own.go (fun t k => XS.iload X1.here hx rfl (hb hby d2_19) rfl k) ?_
    show Own.Fin p e below (T1.setTop (mkF m 21 #[.val (.int p1), .val (.ref a2), .val (.int p3), .val (.int p4), .val (.int (0 : Int32)), .unset] [(.int (0 : Int32))])) _
    have hc21_21 : (0 : Int32) = (0 : Int32) := rfl
    refine Own.go (fun t k => XS.ifNo X1.here hx rfl (hb hby d2_21) rfl ((if0 _ _).trans (teq hc21_21).2) k) ?_
    show Own.Fin p e below (T1.setTop (mkF m 24 #[.val (.int p1), .val (.ref a2), .val (.int p3), .val (.int p4), .val (.int (0 : Int32)), .unset] [])) _
    refine Own.go (fun t k => XS.iconst X1.here hx rfl (hb hby d2_24) k) ?_
    show Own.Fin p e below (T1.setTop (mkF m 25 #[.val (.int p1), .val (.ref a2), .val (.int p3), .val (.int p4), .val (.int (0 : Int32)), .unset] [(.int (0 : Int32))])) _
    refine Own.go (fun t k => XS.istore X1.here hx rfl (hb hby d2_25) rfl (l' := #[.val (.int p1), .val (.ref a2), .val (.int p3), .val (.int p4), .val (.int (0 : Int32)), .val (.int (0 : Int32))]) rfl k) ?_
    show Own.Fin p e below (T1.setTop (mkF m 27 #[.val (.int p1), .val (.ref a2), .val (.int p3), .val (.int p4), .val (.int (0 : Int32)), .val (.int (0 : Int32))] [])) _
    refine Own.go (fun t k => XS.goto X1.here hx rfl (pc0 := 27) (pc' := 136) rfl (hb hby d2_27) (by decide) (by decide) k) ?_
    show Own.Fin p e below (T1.setTop (mkF m 136 #[.val (.int p1), .val (.ref a2), .val (.int p3), .val (.int p4), .val (.int (0 : Int32)), .val (.int (0 : Int32))] [])) _
    refine Own.go (fun t k => XS.iload X1.here hx rfl (hb hby d2_136) rfl k) ?_
    show Own.Fin p e below (T1.setTop (mkF m 138 #[.val (.int p1), .val (.ref a2), .val (.int p3), .val (.int p4), .val (.int (0 : Int32)), .val (.int (0 : Int32))] [(.int (0 : Int32))])) _
    refine Own.retN X1 hx Bd.notSynchronized (t := .boolean) Bd.returns (by simp) (hb hby d2_138) (by decide) (by decide) ?_
    exact ⟨by rw [show F_esc p1 p4 y1 y2 y3 y4 y5 = (0 : Int32) by rw [F_esc, hk, if_pos rfl]]; rfl, N0, e1⟩
theorem pd_0 : parseMethodDescriptor "(C[BII)Z" = some ⟨[.char, (.array .byte), .int, .int], some .boolean⟩ := by decide +kernel
theorem pd_1 : parseMethodDescriptor "(I)I" = some ⟨[.int], some .int⟩ := by decide +kernel
theorem pn_0 : plainName "com/example/changelane/changelane/JsonWriterEscapesPinLaw" = true := by first | (simp [plainName, overriddenIn]; done) | decide +kernel
theorem ef_0 (m : MethodId) (p1 : Int32) (q2 : Int64) (p3 : Int32) (p4 : Int32) : entryFrame m #[(.int p1), (.long q2), (.int p3), (.int p4)] maxLocals = mkF m 0 #[.val (.int p1), .val (.long q2), .second, .val (.int p3), .val (.int p4), .unset, .unset, .unset, .unset, .unset, .unset, .unset, .unset, .unset, .unset, .unset] [] := by first | (simp [entryFrame, mkF, argsToLocals, Value.category, maxLocals]; done) | rfl
def Q0 (Z : State) (p1 : Int32) (q2 : Int64) (p3 : Int32) (p4 : Int32) (ae ah : Addr) (clE clH : Cell) (h0 : Heap) (n0 : Nat) : Option Value → Heap → List Loc → Prop := fun v h L => v = some (.int 1) ∧ Fr n0 L
set_option maxRecDepth 65536 in
set_option maxHeartbeats 40000000 in
theorem rm0 (l : Launch) (Z : State) (a0 : Array Value) (hw : ∀ d ∈ tables_1, d.before a0 Z = true) (ws : List Jvm.Cond) (p1 : Int32) (q2 : Int64) (p3 : Int32) (p4 : Int32) (ae ah : Addr) (clE clH : Cell) (h0 : Heap) (n0 : Nat) (Z0 : n0 ≤ h0.size) (O0 : Old Z n0 h0) (SE : Sta Z Z.heap "com/example/changelane/changelane/JsonWriter" "ESCAPES" "[B" (.ref ae)) (AE : Arr Z Z.heap ae clE .byte) (zE : clE.slots.size.toInt32 = (128 : Int32)) (nE : clE.slots.size = 128) (tE : ∀ j : Int32, ¬ j < 0 → j < (128 : Int32) → clE.slots[j.toNatClampNeg]? = some (.int (F_tab j))) (SH : Sta Z Z.heap "com/example/changelane/changelane/JsonWriter" "HEX" "[B" (.ref ah)) (AH : Arr Z Z.heap ah clH .byte) (nH : clH.slots.size = 16) (tH : ∀ j : Int32, ¬ j < 0 → j < (16 : Int32) → clH.slots[j.toNatClampNeg]? = some (.int (F_hl j))) :
    MetFree l x (head1 (Jvm.Cond.code x code maxLocals ret :: ws) room_1) (fun a U => a = #[(.int p1), (.long q2), (.int p3), (.int p4)] ∧ Z.Warmed39 U.vm ∧ U.heap = h0) (fun _ _ _ _ _ => True) (fun _ U o U' => ∃ v L, o = .returned v ∧ (Q0 Z p1 q2 p3 p4 ae ah clE clH h0 n0) v U'.heap L ∧ FrameEnd U o U' L room_1.cells room_1.slots) := by
  refine MetFree.of_bodySF (plainFor_of_name pn_0) hisR ?_
  intro p e s m args below meth c s₁ Bd hml0 hP hK
  obtain ⟨rfl, hZ, hh⟩ := hP
  have hx := Bd.exec
  have hby := Bd.bytes
  have hml : c.maxLocals = 16 := hml0
  have hown : s.vm.findClass "com/example/changelane/changelane/JsonWriterEscapesPinLaw" = some m.cls := findClass_of_methodNamed Bd.named
  have hnm := (name_of_methodNamed Bd.named Bd.method).1
  have X0 : Stand p l e room_1 s m #[(.int p1), (.long q2), (.int p3), (.int p4)] below meth c s₁ [] 0 0 := Stand.of_body Bd
  have e0 : s₁.heap = h0 := by rw [← hh, Bd.state]; rfl
  have N0 := Fr.nil n0
  show Own.Fin p e below _ (Own.Post s (Q0 Z p1 q2 p3 p4 ae ah clE clH h0 n0) room_1.cells room_1.slots)
  refine Own.start (ef_0 m p1 q2 p3 p4) ?_
  have j20 : ∀ (cc : Int32) (hc : 0 ≤ cc.toInt ∧ cc.toInt ≤ 65535), Own.Fin p e below (s₁.setTop (mkF m 20 #[.val (.int p1), .val (.long q2), .second, .val (.int p3), .val (.int p4), .unset, .unset, .unset, .unset, .unset, .unset, .unset, .unset, .unset, .unset, .unset] [(.int cc)])) (Own.Post s (Q0 Z p1 q2 p3 p4 ae ah clE clH h0 n0) room_1.cells room_1.slots) := by
    intro cc hc
    have hc0 : ¬ cc < 0 := by rw [Int32.lt_iff_toInt_lt, show (0 : Int32).toInt = 0 by decide]; omega
    show Own.Fin p e below (s₁.setTop (mkF m 20 #[.val (.int p1), .val (.long q2), .second, .val (.int p3), .val (.int p4), .unset, .unset, .unset, .unset, .unset, .unset, .unset, .unset, .unset, .unset, .unset] [(.int cc)])) _
    refine Own.go (fun t k => XS.istore X0.here hx rfl (hb hby at_20) rfl (l' := #[.val (.int p1), .val (.long q2), .second, .val (.int p3), .val (.int p4), .val (.int cc), .unset, .unset, .unset, .unset, .unset, .unset, .unset, .unset, .unset, .unset]) rfl k) ?_
    show Own.Fin p e below (s₁.setTop (mkF m 22 #[.val (.int p1), .val (.long q2), .second, .val (.int p3), .val (.int p4), .val (.int cc), .unset, .unset, .unset, .unset, .unset, .unset, .unset, .unset, .unset, .unset] [])) _
    refine Own.go (fun t k => XS.iloadN X0.here hx rfl (hb hby at_22) rfl k) ?_
    show Own.Fin p e below (s₁.setTop (mkF m 23 #[.val (.int p1), .val (.long q2), .second, .val (.int p3), .val (.int p4), .val (.int cc), .unset, .unset, .unset, .unset, .unset, .unset, .unset, .unset, .unset, .unset] [(.int p3)])) _
    refine Own.go (fun t k => XS.iconst X0.here hx rfl (hb hby at_23) k) ?_
    show Own.Fin p e below (s₁.setTop (mkF m 24 #[.val (.int p1), .val (.long q2), .second, .val (.int p3), .val (.int p4), .val (.int cc), .unset, .unset, .unset, .unset, .unset, .unset, .unset, .unset, .unset, .unset] [(.int (3 : Int32)), (.int p3)])) _
    refine Own.go (fun t k => XS.iand X0.here hx rfl (hb hby at_24) rfl k) ?_
    show Own.Fin p e below (s₁.setTop (mkF m 25 #[.val (.int p1), .val (.long q2), .second, .val (.int p3), .val (.int p4), .val (.int cc), .unset, .unset, .unset, .unset, .unset, .unset, .unset, .unset, .unset, .unset] [(.int (p3 &&& (3 : Int32)))])) _
    generalize hmd : (p3 &&& (3 : Int32)) = md
    refine Own.go (fun t k => XS.istore X0.here hx rfl (hb hby at_25) rfl (l' := #[.val (.int p1), .val (.long q2), .second, .val (.int p3), .val (.int p4), .val (.int cc), .val (.int md), .unset, .unset, .unset, .unset, .unset, .unset, .unset, .unset, .unset]) rfl k) ?_
    show Own.Fin p e below (s₁.setTop (mkF m 27 #[.val (.int p1), .val (.long q2), .second, .val (.int p3), .val (.int p4), .val (.int cc), .val (.int md), .unset, .unset, .unset, .unset, .unset, .unset, .unset, .unset, .unset] [])) _
    refine Own.go (fun t k => XS.iloadN X0.here hx rfl (hb hby at_27) rfl k) ?_
    show Own.Fin p e below (s₁.setTop (mkF m 28 #[.val (.int p1), .val (.long q2), .second, .val (.int p3), .val (.int p4), .val (.int cc), .val (.int md), .unset, .unset, .unset, .unset, .unset, .unset, .unset, .unset, .unset] [(.int p3)])) _
    refine Own.go (fun t k => XS.iconst X0.here hx rfl (hb hby at_28) k) ?_
    show Own.Fin p e below (s₁.setTop (mkF m 29 #[.val (.int p1), .val (.long q2), .second, .val (.int p3), .val (.int p4), .val (.int cc), .val (.int md), .unset, .unset, .unset, .unset, .unset, .unset, .unset, .unset, .unset] [(.int (2 : Int32)), (.int p3)])) _
    refine Own.go (fun t k => XS.iushr X0.here hx rfl (hb hby at_29) rfl k) ?_
    show Own.Fin p e below (s₁.setTop (mkF m 30 #[.val (.int p1), .val (.long q2), .second, .val (.int p3), .val (.int p4), .val (.int cc), .val (.int md), .unset, .unset, .unset, .unset, .unset, .unset, .unset, .unset, .unset] [(.int (((p3).toUInt32 >>> ((2 : Int32) &&& 31).toUInt32).toInt32))])) _
    refine Own.go (fun t k => XS.iconst X0.here hx rfl (hb hby at_30) k) ?_
    show Own.Fin p e below (s₁.setTop (mkF m 31 #[.val (.int p1), .val (.long q2), .second, .val (.int p3), .val (.int p4), .val (.int cc), .val (.int md), .unset, .unset, .unset, .unset, .unset, .unset, .unset, .unset, .unset] [(.int (3 : Int32)), (.int (((p3).toUInt32 >>> ((2 : Int32) &&& 31).toUInt32).toInt32))])) _
    refine Own.go (fun t k => XS.iand X0.here hx rfl (hb hby at_31) rfl k) ?_
    show Own.Fin p e below (s₁.setTop (mkF m 32 #[.val (.int p1), .val (.long q2), .second, .val (.int p3), .val (.int p4), .val (.int cc), .val (.int md), .unset, .unset, .unset, .unset, .unset, .unset, .unset, .unset, .unset] [(.int ((((p3).toUInt32 >>> ((2 : Int32) &&& 31).toUInt32).toInt32) &&& (3 : Int32)))])) _
    have hat : 0 ≤ (((((p3).toUInt32 >>> ((2 : Int32) &&& 31).toUInt32).toInt32) &&& (3 : Int32))).toInt ∧ (((((p3).toUInt32 >>> ((2 : Int32) &&& 31).toUInt32).toInt32) &&& (3 : Int32))).toInt ≤ 3 := own_m3 _
    generalize hat_ : ((((p3).toUInt32 >>> ((2 : Int32) &&& 31).toUInt32).toInt32) &&& (3 : Int32)) = at_ at hat ⊢
    refine Own.go (fun t k => XS.istore X0.here hx rfl (hb hby at_32) rfl (l' := #[.val (.int p1), .val (.long q2), .second, .val (.int p3), .val (.int p4), .val (.int cc), .val (.int md), .val (.int at_), .unset, .unset, .unset, .unset, .unset, .unset, .unset, .unset]) rfl k) ?_
    show Own.Fin p e below (s₁.setTop (mkF m 34 #[.val (.int p1), .val (.long q2), .second, .val (.int p3), .val (.int p4), .val (.int cc), .val (.int md), .val (.int at_), .unset, .unset, .unset, .unset, .unset, .unset, .unset, .unset] [])) _
    refine Own.go (fun t k => XS.iloadN X0.here hx rfl (hb hby at_34) rfl k) ?_
    show Own.Fin p e below (s₁.setTop (mkF m 35 #[.val (.int p1), .val (.long q2), .second, .val (.int p3), .val (.int p4), .val (.int cc), .val (.int md), .val (.int at_), .unset, .unset, .unset, .unset, .unset, .unset, .unset, .unset] [(.int p3)])) _
    refine Own.go (fun t k => XS.iconst X0.here hx rfl (hb hby at_35) k) ?_
    show Own.Fin p e below (s₁.setTop (mkF m 36 #[.val (.int p1), .val (.long q2), .second, .val (.int p3), .val (.int p4), .val (.int cc), .val (.int md), .val (.int at_), .unset, .unset, .unset, .unset, .unset, .unset, .unset, .unset] [(.int (4 : Int32)), (.int p3)])) _
    refine Own.go (fun t k => XS.iushr X0.here hx rfl (hb hby at_36) rfl k) ?_
    show Own.Fin p e below (s₁.setTop (mkF m 37 #[.val (.int p1), .val (.long q2), .second, .val (.int p3), .val (.int p4), .val (.int cc), .val (.int md), .val (.int at_), .unset, .unset, .unset, .unset, .unset, .unset, .unset, .unset] [(.int (((p3).toUInt32 >>> ((4 : Int32) &&& 31).toUInt32).toInt32))])) _
    refine Own.go (fun t k => XS.bipush X0.here hx rfl (hb hby at_37) k) ?_
    show Own.Fin p e below (s₁.setTop (mkF m 39 #[.val (.int p1), .val (.long q2), .second, .val (.int p3), .val (.int p4), .val (.int cc), .val (.int md), .val (.int at_), .unset, .unset, .unset, .unset, .unset, .unset, .unset, .unset] [(.int (7 : Int32)), (.int (((p3).toUInt32 >>> ((4 : Int32) &&& 31).toUInt32).toInt32))])) _
    refine Own.go (fun t k => XS.iand X0.here hx rfl (hb hby at_39) rfl k) ?_
    show Own.Fin p e below (s₁.setTop (mkF m 40 #[.val (.int p1), .val (.long q2), .second, .val (.int p3), .val (.int p4), .val (.int cc), .val (.int md), .val (.int at_), .unset, .unset, .unset, .unset, .unset, .unset, .unset, .unset] [(.int ((((p3).toUInt32 >>> ((4 : Int32) &&& 31).toUInt32).toInt32) &&& (7 : Int32)))])) _
    generalize hln : ((((p3).toUInt32 >>> ((4 : Int32) &&& 31).toUInt32).toInt32) &&& (7 : Int32)) = ln
    refine Own.go (fun t k => XS.istore X0.here hx rfl (hb hby at_40) rfl (l' := #[.val (.int p1), .val (.long q2), .second, .val (.int p3), .val (.int p4), .val (.int cc), .val (.int md), .val (.int at_), .val (.int ln), .unset, .unset, .unset, .unset, .unset, .unset, .unset]) rfl k) ?_
    show Own.Fin p e below (s₁.setTop (mkF m 42 #[.val (.int p1), .val (.long q2), .second, .val (.int p3), .val (.int p4), .val (.int cc), .val (.int md), .val (.int at_), .val (.int ln), .unset, .unset, .unset, .unset, .unset, .unset, .unset] [])) _
    refine Own.go (fun t k => XS.iloadN X0.here hx rfl (hb hby at_42) rfl k) ?_
    show Own.Fin p e below (s₁.setTop (mkF m 43 #[.val (.int p1), .val (.long q2), .second, .val (.int p3), .val (.int p4), .val (.int cc), .val (.int md), .val (.int at_), .val (.int ln), .unset, .unset, .unset, .unset, .unset, .unset, .unset] [(.int p3)])) _
    refine Own.go (fun t k => XS.bipush X0.here hx rfl (hb hby at_43) k) ?_
    show Own.Fin p e below (s₁.setTop (mkF m 45 #[.val (.int p1), .val (.long q2), .second, .val (.int p3), .val (.int p4), .val (.int cc), .val (.int md), .val (.int at_), .val (.int ln), .unset, .unset, .unset, .unset, .unset, .unset, .unset] [(.int (7 : Int32)), (.int p3)])) _
    refine Own.go (fun t k => XS.iushr X0.here hx rfl (hb hby at_45) rfl k) ?_
    show Own.Fin p e below (s₁.setTop (mkF m 46 #[.val (.int p1), .val (.long q2), .second, .val (.int p3), .val (.int p4), .val (.int cc), .val (.int md), .val (.int at_), .val (.int ln), .unset, .unset, .unset, .unset, .unset, .unset, .unset] [(.int (((p3).toUInt32 >>> ((7 : Int32) &&& 31).toUInt32).toInt32))])) _
    refine Own.go (fun t k => XS.bipush X0.here hx rfl (hb hby at_46) k) ?_
    show Own.Fin p e below (s₁.setTop (mkF m 48 #[.val (.int p1), .val (.long q2), .second, .val (.int p3), .val (.int p4), .val (.int cc), .val (.int md), .val (.int at_), .val (.int ln), .unset, .unset, .unset, .unset, .unset, .unset, .unset] [(.int (7 : Int32)), (.int (((p3).toUInt32 >>> ((7 : Int32) &&& 31).toUInt32).toInt32))])) _
    refine Own.go (fun t k => XS.iand X0.here hx rfl (hb hby at_48) rfl k) ?_
    show Own.Fin p e below (s₁.setTop (mkF m 49 #[.val (.int p1), .val (.long q2), .second, .val (.int p3), .val (.int p4), .val (.int cc), .val (.int md), .val (.int at_), .val (.int ln), .unset, .unset, .unset, .unset, .unset, .unset, .unset] [(.int ((((p3).toUInt32 >>> ((7 : Int32) &&& 31).toUInt32).toInt32) &&& (7 : Int32)))])) _
    generalize hixx : ((((p3).toUInt32 >>> ((7 : Int32) &&& 31).toUInt32).toInt32) &&& (7 : Int32)) = ixx
    refine Own.go (fun t k => XS.istore X0.here hx rfl (hb hby at_49) rfl (l' := #[.val (.int p1), .val (.long q2), .second, .val (.int p3), .val (.int p4), .val (.int cc), .val (.int md), .val (.int at_), .val (.int ln), .val (.int ixx), .unset, .unset, .unset, .unset, .unset, .unset]) rfl k) ?_
    show Own.Fin p e below (s₁.setTop (mkF m 51 #[.val (.int p1), .val (.long q2), .second, .val (.int p3), .val (.int p4), .val (.int cc), .val (.int md), .val (.int at_), .val (.int ln), .val (.int ixx), .unset, .unset, .unset, .unset, .unset, .unset] [])) _
    have j65 : ∀ (pt : Int32), Own.Fin p e below (s₁.setTop (mkF m 65 #[.val (.int p1), .val (.long q2), .second, .val (.int p3), .val (.int p4), .val (.int cc), .val (.int md), .val (.int at_), .val (.int ln), .val (.int ixx), .unset, .unset, .unset, .unset, .unset, .unset] [(.int pt)])) (Own.Post s (Q0 Z p1 q2 p3 p4 ae ah clE clH h0 n0) room_1.cells room_1.slots) := by
      intro pt
      show Own.Fin p e below (s₁.setTop (mkF m 65 #[.val (.int p1), .val (.long q2), .second, .val (.int p3), .val (.int p4), .val (.int cc), .val (.int md), .val (.int at_), .val (.int ln), .val (.int ixx), .unset, .unset, .unset, .unset, .unset, .unset] [(.int pt)])) _
      refine Own.go (fun t k => XS.istore X0.here hx rfl (hb hby at_65) rfl (l' := #[.val (.int p1), .val (.long q2), .second, .val (.int p3), .val (.int p4), .val (.int cc), .val (.int md), .val (.int at_), .val (.int ln), .val (.int ixx), .val (.int pt), .unset, .unset, .unset, .unset, .unset]) rfl k) ?_
      show Own.Fin p e below (s₁.setTop (mkF m 67 #[.val (.int p1), .val (.long q2), .second, .val (.int p3), .val (.int p4), .val (.int cc), .val (.int md), .val (.int at_), .val (.int ln), .val (.int ixx), .val (.int pt), .unset, .unset, .unset, .unset, .unset] [])) _
      refine Own.go (fun t k => XS.iload X0.here hx rfl (hb hby at_67) rfl k) ?_
      show Own.Fin p e below (s₁.setTop (mkF m 69 #[.val (.int p1), .val (.long q2), .second, .val (.int p3), .val (.int p4), .val (.int cc), .val (.int md), .val (.int at_), .val (.int ln), .val (.int ixx), .val (.int pt), .unset, .unset, .unset, .unset, .unset] [(.int at_)])) _
      refine Own.go (fun t k => XS.iconst X0.here hx rfl (hb hby at_69) k) ?_
      show Own.Fin p e below (s₁.setTop (mkF m 70 #[.val (.int p1), .val (.long q2), .second, .val (.int p3), .val (.int p4), .val (.int cc), .val (.int md), .val (.int at_), .val (.int ln), .val (.int ixx), .val (.int pt), .unset, .unset, .unset, .unset, .unset] [(.int (1 : Int32)), (.int at_)])) _
      refine Own.go (fun t k => XS.iadd X0.here hx rfl (hb hby at_70) rfl k) ?_
      show Own.Fin p e below (s₁.setTop (mkF m 71 #[.val (.int p1), .val (.long q2), .second, .val (.int p3), .val (.int p4), .val (.int cc), .val (.int md), .val (.int at_), .val (.int ln), .val (.int ixx), .val (.int pt), .unset, .unset, .unset, .unset, .unset] [(.int (at_ + (1 : Int32)))])) _
      refine Own.go (fun t k => XS.iloadN X0.here hx rfl (hb hby at_71) rfl k) ?_
      show Own.Fin p e below (s₁.setTop (mkF m 72 #[.val (.int p1), .val (.long q2), .second, .val (.int p3), .val (.int p4), .val (.int cc), .val (.int md), .val (.int at_), .val (.int ln), .val (.int ixx), .val (.int pt), .unset, .unset, .unset, .unset, .unset] [(.int p3), (.int (at_ + (1 : Int32)))])) _
      refine Own.go (fun t k => XS.bipush X0.here hx rfl (hb hby at_72) k) ?_
      show Own.Fin p e below (s₁.setTop (mkF m 74 #[.val (.int p1), .val (.long q2), .second, .val (.int p3), .val (.int p4), .val (.int cc), .val (.int md), .val (.int at_), .val (.int ln), .val (.int ixx), .val (.int pt), .unset, .unset, .unset, .unset, .unset] [(.int (11 : Int32)), (.int p3), (.int (at_ + (1 : Int32)))])) _
      refine Own.go (fun t k => XS.iushr X0.here hx rfl (hb hby at_74) rfl k) ?_
      show Own.Fin p e below (s₁.setTop (mkF m 75 #[.val (.int p1), .val (.long q2), .second, .val (.int p3), .val (.int p4), .val (.int cc), .val (.int md), .val (.int at_), .val (.int ln), .val (.int ixx), .val (.int pt), .unset, .unset, .unset, .unset, .unset] [(.int (((p3).toUInt32 >>> ((11 : Int32) &&& 31).toUInt32).toInt32)), (.int (at_ + (1 : Int32)))])) _
      refine Own.go (fun t k => XS.bipush X0.here hx rfl (hb hby at_75) k) ?_
      show Own.Fin p e below (s₁.setTop (mkF m 77 #[.val (.int p1), .val (.long q2), .second, .val (.int p3), .val (.int p4), .val (.int cc), .val (.int md), .val (.int at_), .val (.int ln), .val (.int ixx), .val (.int pt), .unset, .unset, .unset, .unset, .unset] [(.int (7 : Int32)), (.int (((p3).toUInt32 >>> ((11 : Int32) &&& 31).toUInt32).toInt32)), (.int (at_ + (1 : Int32)))])) _
      refine Own.go (fun t k => XS.iand X0.here hx rfl (hb hby at_77) rfl k) ?_
      show Own.Fin p e below (s₁.setTop (mkF m 78 #[.val (.int p1), .val (.long q2), .second, .val (.int p3), .val (.int p4), .val (.int cc), .val (.int md), .val (.int at_), .val (.int ln), .val (.int ixx), .val (.int pt), .unset, .unset, .unset, .unset, .unset] [(.int ((((p3).toUInt32 >>> ((11 : Int32) &&& 31).toUInt32).toInt32) &&& (7 : Int32))), (.int (at_ + (1 : Int32)))])) _
      refine Own.go (fun t k => XS.iadd X0.here hx rfl (hb hby at_78) rfl k) ?_
      show Own.Fin p e below (s₁.setTop (mkF m 79 #[.val (.int p1), .val (.long q2), .second, .val (.int p3), .val (.int p4), .val (.int cc), .val (.int md), .val (.int at_), .val (.int ln), .val (.int ixx), .val (.int pt), .unset, .unset, .unset, .unset, .unset] [(.int ((at_ + (1 : Int32)) + ((((p3).toUInt32 >>> ((11 : Int32) &&& 31).toUInt32).toInt32) &&& (7 : Int32))))])) _
      have hps : ¬ (((at_ + (1 : Int32)) + ((((p3).toUInt32 >>> ((11 : Int32) &&& 31).toUInt32).toInt32) &&& (7 : Int32)))) < 0 ∧ (((at_ + (1 : Int32)) + ((((p3).toUInt32 >>> ((11 : Int32) &&& 31).toUInt32).toInt32) &&& (7 : Int32)))) < (12 : Int32) := own_pos at_ _ hat (own_m7 _)
      generalize hpo_ : ((at_ + (1 : Int32)) + ((((p3).toUInt32 >>> ((11 : Int32) &&& 31).toUInt32).toInt32) &&& (7 : Int32))) = po at hps ⊢
      refine Own.go (fun t k => XS.istore X0.here hx rfl (hb hby at_79) rfl (l' := #[.val (.int p1), .val (.long q2), .second, .val (.int p3), .val (.int p4), .val (.int cc), .val (.int md), .val (.int at_), .val (.int ln), .val (.int ixx), .val (.int pt), .val (.int po), .unset, .unset, .unset, .unset]) rfl k) ?_
      show Own.Fin p e below (s₁.setTop (mkF m 81 #[.val (.int p1), .val (.long q2), .second, .val (.int p3), .val (.int p4), .val (.int cc), .val (.int md), .val (.int at_), .val (.int ln), .val (.int ixx), .val (.int pt), .val (.int po), .unset, .unset, .unset, .unset] [])) _
      refine Own.go (fun t k => XS.bipush X0.here hx rfl (hb hby at_81) k) ?_
      show Own.Fin p e below (s₁.setTop (mkF m 83 #[.val (.int p1), .val (.long q2), .second, .val (.int p3), .val (.int p4), .val (.int cc), .val (.int md), .val (.int at_), .val (.int ln), .val (.int ixx), .val (.int pt), .val (.int po), .unset, .unset, .unset, .unset] [(.int (12 : Int32))])) _
      refine Own.newA X0 hx hZ (hw _ (List.mem_of_getElem? (i := 1) rfl)) e0 (hb hby at_83) (by decide) 12 (by decide) (by decide) (by decide) (by decide) ?_
      intro T1 h1 b1 k1 X1 e1 E1 gb1 V1
      have ge1 : n0 ≤ b1 := by rw [gb1]; exact Z0
      have Z1 : n0 ≤ h1.size := Nat.le_trans Z0 E1.1
      have O1 := O0.ext E1
      have Vp1 : Arv Z h1 b1 k1 .byte (12 : Int32) [(.int (0 : Int32)), (.int (0 : Int32)), (.int (0 : Int32)), (.int (0 : Int32)), (.int (0 : Int32)), (.int (0 : Int32)), (.int (0 : Int32)), (.int (0 : Int32)), (.int (0 : Int32)), (.int (0 : Int32)), (.int (0 : Int32)), (.int (0 : Int32))] (.int (0 : Int32)) := Arv.pad V1 (pad_rep [] (.int (0 : Int32)) 12)
      show Own.Fin p e below (T1.setTop (mkF m 85 #[.val (.int p1), .val (.long q2), .second, .val (.int p3), .val (.int p4), .val (.int cc), .val (.int md), .val (.int at_), .val (.int ln), .val (.int ixx), .val (.int pt), .val (.int po), .unset, .unset, .unset, .unset] [(.ref b1)])) _
      refine Own.go (fun t k => XS.astore X1.here hx rfl (hb hby at_85) rfl rfl (l' := #[.val (.int p1), .val (.long q2), .second, .val (.int p3), .val (.int p4), .val (.int cc), .val (.int md), .val (.int at_), .val (.int ln), .val (.int ixx), .val (.int pt), .val (.int po), .val (.ref b1), .unset, .unset, .unset]) rfl k) ?_
      show Own.Fin p e below (T1.setTop (mkF m 87 #[.val (.int p1), .val (.long q2), .second, .val (.int p3), .val (.int p4), .val (.int cc), .val (.int md), .val (.int at_), .val (.int ln), .val (.int ixx), .val (.int pt), .val (.int po), .val (.ref b1), .unset, .unset, .unset] [])) _
      refine Own.go (fun t k => XS.aload X1.here hx rfl (hb hby at_87) rfl rfl k) ?_
      show Own.Fin p e below (T1.setTop (mkF m 89 #[.val (.int p1), .val (.long q2), .second, .val (.int p3), .val (.int p4), .val (.int cc), .val (.int md), .val (.int at_), .val (.int ln), .val (.int ixx), .val (.int pt), .val (.int po), .val (.ref b1), .unset, .unset, .unset] [(.ref b1)])) _
      refine Own.go (fun t k => XS.iconst X1.here hx rfl (hb hby at_89) k) ?_
      show Own.Fin p e below (T1.setTop (mkF m 90 #[.val (.int p1), .val (.long q2), .second, .val (.int p3), .val (.int p4), .val (.int cc), .val (.int md), .val (.int at_), .val (.int ln), .val (.int ixx), .val (.int pt), .val (.int po), .val (.ref b1), .unset, .unset, .unset] [(.int (0 : Int32)), (.ref b1)])) _
      refine Own.go (fun t k => XS.lloadN X1.here hx rfl (hb hby at_90) rfl k) ?_
      show Own.Fin p e below (T1.setTop (mkF m 91 #[.val (.int p1), .val (.long q2), .second, .val (.int p3), .val (.int p4), .val (.int cc), .val (.int md), .val (.int at_), .val (.int ln), .val (.int ixx), .val (.int pt), .val (.int po), .val (.ref b1), .unset, .unset, .unset] [(.long q2), (.int (0 : Int32)), (.ref b1)])) _
      refine Own.go (fun t k => XS.l2i X1.here hx rfl (hb hby at_91) rfl k) ?_
      show Own.Fin p e below (T1.setTop (mkF m 92 #[.val (.int p1), .val (.long q2), .second, .val (.int p3), .val (.int p4), .val (.int cc), .val (.int md), .val (.int at_), .val (.int ln), .val (.int ixx), .val (.int pt), .val (.int po), .val (.ref b1), .unset, .unset, .unset] [(.int ((q2).toInt32)), (.int (0 : Int32)), (.ref b1)])) _
      refine Own.go (fun t k => XS.i2b X1.here hx rfl (hb hby at_92) rfl k) ?_
      show Own.Fin p e below (T1.setTop (mkF m 93 #[.val (.int p1), .val (.long q2), .second, .val (.int p3), .val (.int p4), .val (.int cc), .val (.int md), .val (.int at_), .val (.int ln), .val (.int ixx), .val (.int pt), .val (.int po), .val (.ref b1), .unset, .unset, .unset] [(.int ((((q2).toInt32)).toInt8.toInt32)), (.int (0 : Int32)), (.ref b1)])) _
      refine Own.stB X1 hx hZ e1 Vp1 (hb hby at_93) ⟨by decide, by decide⟩ 0 rfl (Nat.le_of_ble_eq_true rfl) ?_
      intro T2 h2 X2 e2 W2 V2
      have N2 := Fr.snoc X2 N0 ge1
      have Z2 : n0 ≤ h2.size := by rw [W2.size]; exact Z1
      have O2 := O1.wr W2 ge1
      have Vq2 : Arv Z h2 b1 k1 .byte (12 : Int32) [(.int (nar .byte ((((q2).toInt32)).toInt8.toInt32))), (.int (0 : Int32)), (.int (0 : Int32)), (.int (0 : Int32)), (.int (0 : Int32)), (.int (0 : Int32)), (.int (0 : Int32)), (.int (0 : Int32)), (.int (0 : Int32)), (.int (0 : Int32)), (.int (0 : Int32)), (.int (0 : Int32))] (.int (0 : Int32)) := V2
      show Own.Fin p e below (T2.setTop (mkF m 94 #[.val (.int p1), .val (.long q2), .second, .val (.int p3), .val (.int p4), .val (.int cc), .val (.int md), .val (.int at_), .val (.int ln), .val (.int ixx), .val (.int pt), .val (.int po), .val (.ref b1), .unset, .unset, .unset] [])) _
      refine Own.go (fun t k => XS.aload X2.here hx rfl (hb hby at_94) rfl rfl k) ?_
      show Own.Fin p e below (T2.setTop (mkF m 96 #[.val (.int p1), .val (.long q2), .second, .val (.int p3), .val (.int p4), .val (.int cc), .val (.int md), .val (.int at_), .val (.int ln), .val (.int ixx), .val (.int pt), .val (.int po), .val (.ref b1), .unset, .unset, .unset] [(.ref b1)])) _
      refine Own.go (fun t k => XS.iconst X2.here hx rfl (hb hby at_96) k) ?_
      show Own.Fin p e below (T2.setTop (mkF m 97 #[.val (.int p1), .val (.long q2), .second, .val (.int p3), .val (.int p4), .val (.int cc), .val (.int md), .val (.int at_), .val (.int ln), .val (.int ixx), .val (.int pt), .val (.int po), .val (.ref b1), .unset, .unset, .unset] [(.int (1 : Int32)), (.ref b1)])) _
      refine Own.go (fun t k => XS.lloadN X2.here hx rfl (hb hby at_97) rfl k) ?_
      show Own.Fin p e below (T2.setTop (mkF m 98 #[.val (.int p1), .val (.long q2), .second, .val (.int p3), .val (.int p4), .val (.int cc), .val (.int md), .val (.int at_), .val (.int ln), .val (.int ixx), .val (.int pt), .val (.int po), .val (.ref b1), .unset, .unset, .unset] [(.long q2), (.int (1 : Int32)), (.ref b1)])) _
      refine Own.go (fun t k => XS.bipush X2.here hx rfl (hb hby at_98) k) ?_
      show Own.Fin p e below (T2.setTop (mkF m 100 #[.val (.int p1), .val (.long q2), .second, .val (.int p3), .val (.int p4), .val (.int cc), .val (.int md), .val (.int at_), .val (.int ln), .val (.int ixx), .val (.int pt), .val (.int po), .val (.ref b1), .unset, .unset, .unset] [(.int (8 : Int32)), (.long q2), (.int (1 : Int32)), (.ref b1)])) _
      refine Own.go (fun t k => XS.lushr X2.here hx rfl (hb hby at_100) rfl k) ?_
      show Own.Fin p e below (T2.setTop (mkF m 101 #[.val (.int p1), .val (.long q2), .second, .val (.int p3), .val (.int p4), .val (.int cc), .val (.int md), .val (.int at_), .val (.int ln), .val (.int ixx), .val (.int pt), .val (.int po), .val (.ref b1), .unset, .unset, .unset] [(.long (((q2).toUInt64 >>> ((8 : Int32) &&& 0x3f).toInt64.toUInt64).toInt64)), (.int (1 : Int32)), (.ref b1)])) _
      refine Own.go (fun t k => XS.l2i X2.here hx rfl (hb hby at_101) rfl k) ?_
      show Own.Fin p e below (T2.setTop (mkF m 102 #[.val (.int p1), .val (.long q2), .second, .val (.int p3), .val (.int p4), .val (.int cc), .val (.int md), .val (.int at_), .val (.int ln), .val (.int ixx), .val (.int pt), .val (.int po), .val (.ref b1), .unset, .unset, .unset] [(.int (((((q2).toUInt64 >>> ((8 : Int32) &&& 0x3f).toInt64.toUInt64).toInt64)).toInt32)), (.int (1 : Int32)), (.ref b1)])) _
      refine Own.go (fun t k => XS.i2b X2.here hx rfl (hb hby at_102) rfl k) ?_
      show Own.Fin p e below (T2.setTop (mkF m 103 #[.val (.int p1), .val (.long q2), .second, .val (.int p3), .val (.int p4), .val (.int cc), .val (.int md), .val (.int at_), .val (.int ln), .val (.int ixx), .val (.int pt), .val (.int po), .val (.ref b1), .unset, .unset, .unset] [(.int (((((((q2).toUInt64 >>> ((8 : Int32) &&& 0x3f).toInt64.toUInt64).toInt64)).toInt32)).toInt8.toInt32)), (.int (1 : Int32)), (.ref b1)])) _
      refine Own.stB X2 hx hZ e2 Vq2 (hb hby at_103) ⟨by decide, by decide⟩ 1 rfl (Nat.le_of_ble_eq_true rfl) ?_
      intro T3 h3 X3 e3 W3 V3
      have N3 := Fr.snoc X3 N2 ge1
      have Z3 : n0 ≤ h3.size := by rw [W3.size]; exact Z2
      have O3 := O2.wr W3 ge1
      have Vq3 : Arv Z h3 b1 k1 .byte (12 : Int32) [(.int (nar .byte ((((q2).toInt32)).toInt8.toInt32))), (.int (nar .byte (((((((q2).toUInt64 >>> ((8 : Int32) &&& 0x3f).toInt64.toUInt64).toInt64)).toInt32)).toInt8.toInt32))), (.int (0 : Int32)), (.int (0 : Int32)), (.int (0 : Int32)), (.int (0 : Int32)), (.int (0 : Int32)), (.int (0 : Int32)), (.int (0 : Int32)), (.int (0 : Int32)), (.int (0 : Int32)), (.int (0 : Int32))] (.int (0 : Int32)) := V3
      show Own.Fin p e below (T3.setTop (mkF m 104 #[.val (.int p1), .val (.long q2), .second, .val (.int p3), .val (.int p4), .val (.int cc), .val (.int md), .val (.int at_), .val (.int ln), .val (.int ixx), .val (.int pt), .val (.int po), .val (.ref b1), .unset, .unset, .unset] [])) _
      refine Own.go (fun t k => XS.aload X3.here hx rfl (hb hby at_104) rfl rfl k) ?_
      show Own.Fin p e below (T3.setTop (mkF m 106 #[.val (.int p1), .val (.long q2), .second, .val (.int p3), .val (.int p4), .val (.int cc), .val (.int md), .val (.int at_), .val (.int ln), .val (.int ixx), .val (.int pt), .val (.int po), .val (.ref b1), .unset, .unset, .unset] [(.ref b1)])) _
      refine Own.go (fun t k => XS.iconst X3.here hx rfl (hb hby at_106) k) ?_
      show Own.Fin p e below (T3.setTop (mkF m 107 #[.val (.int p1), .val (.long q2), .second, .val (.int p3), .val (.int p4), .val (.int cc), .val (.int md), .val (.int at_), .val (.int ln), .val (.int ixx), .val (.int pt), .val (.int po), .val (.ref b1), .unset, .unset, .unset] [(.int (2 : Int32)), (.ref b1)])) _
      refine Own.go (fun t k => XS.lloadN X3.here hx rfl (hb hby at_107) rfl k) ?_
      show Own.Fin p e below (T3.setTop (mkF m 108 #[.val (.int p1), .val (.long q2), .second, .val (.int p3), .val (.int p4), .val (.int cc), .val (.int md), .val (.int at_), .val (.int ln), .val (.int ixx), .val (.int pt), .val (.int po), .val (.ref b1), .unset, .unset, .unset] [(.long q2), (.int (2 : Int32)), (.ref b1)])) _
      refine Own.go (fun t k => XS.bipush X3.here hx rfl (hb hby at_108) k) ?_
      show Own.Fin p e below (T3.setTop (mkF m 110 #[.val (.int p1), .val (.long q2), .second, .val (.int p3), .val (.int p4), .val (.int cc), .val (.int md), .val (.int at_), .val (.int ln), .val (.int ixx), .val (.int pt), .val (.int po), .val (.ref b1), .unset, .unset, .unset] [(.int (16 : Int32)), (.long q2), (.int (2 : Int32)), (.ref b1)])) _
      refine Own.go (fun t k => XS.lushr X3.here hx rfl (hb hby at_110) rfl k) ?_
      show Own.Fin p e below (T3.setTop (mkF m 111 #[.val (.int p1), .val (.long q2), .second, .val (.int p3), .val (.int p4), .val (.int cc), .val (.int md), .val (.int at_), .val (.int ln), .val (.int ixx), .val (.int pt), .val (.int po), .val (.ref b1), .unset, .unset, .unset] [(.long (((q2).toUInt64 >>> ((16 : Int32) &&& 0x3f).toInt64.toUInt64).toInt64)), (.int (2 : Int32)), (.ref b1)])) _
      refine Own.go (fun t k => XS.l2i X3.here hx rfl (hb hby at_111) rfl k) ?_
      show Own.Fin p e below (T3.setTop (mkF m 112 #[.val (.int p1), .val (.long q2), .second, .val (.int p3), .val (.int p4), .val (.int cc), .val (.int md), .val (.int at_), .val (.int ln), .val (.int ixx), .val (.int pt), .val (.int po), .val (.ref b1), .unset, .unset, .unset] [(.int (((((q2).toUInt64 >>> ((16 : Int32) &&& 0x3f).toInt64.toUInt64).toInt64)).toInt32)), (.int (2 : Int32)), (.ref b1)])) _
      refine Own.go (fun t k => XS.i2b X3.here hx rfl (hb hby at_112) rfl k) ?_
      show Own.Fin p e below (T3.setTop (mkF m 113 #[.val (.int p1), .val (.long q2), .second, .val (.int p3), .val (.int p4), .val (.int cc), .val (.int md), .val (.int at_), .val (.int ln), .val (.int ixx), .val (.int pt), .val (.int po), .val (.ref b1), .unset, .unset, .unset] [(.int (((((((q2).toUInt64 >>> ((16 : Int32) &&& 0x3f).toInt64.toUInt64).toInt64)).toInt32)).toInt8.toInt32)), (.int (2 : Int32)), (.ref b1)])) _
      refine Own.stB X3 hx hZ e3 Vq3 (hb hby at_113) ⟨by decide, by decide⟩ 2 rfl (Nat.le_of_ble_eq_true rfl) ?_
      intro T4 h4 X4 e4 W4 V4
      have N4 := Fr.snoc X4 N3 ge1
      have Z4 : n0 ≤ h4.size := by rw [W4.size]; exact Z3
      have O4 := O3.wr W4 ge1
      have Vq4 : Arv Z h4 b1 k1 .byte (12 : Int32) [(.int (nar .byte ((((q2).toInt32)).toInt8.toInt32))), (.int (nar .byte (((((((q2).toUInt64 >>> ((8 : Int32) &&& 0x3f).toInt64.toUInt64).toInt64)).toInt32)).toInt8.toInt32))), (.int (nar .byte (((((((q2).toUInt64 >>> ((16 : Int32) &&& 0x3f).toInt64.toUInt64).toInt64)).toInt32)).toInt8.toInt32))), (.int (0 : Int32)), (.int (0 : Int32)), (.int (0 : Int32)), (.int (0 : Int32)), (.int (0 : Int32)), (.int (0 : Int32)), (.int (0 : Int32)), (.int (0 : Int32)), (.int (0 : Int32))] (.int (0 : Int32)) := V4
      show Own.Fin p e below (T4.setTop (mkF m 114 #[.val (.int p1), .val (.long q2), .second, .val (.int p3), .val (.int p4), .val (.int cc), .val (.int md), .val (.int at_), .val (.int ln), .val (.int ixx), .val (.int pt), .val (.int po), .val (.ref b1), .unset, .unset, .unset] [])) _
      refine Own.go (fun t k => XS.aload X4.here hx rfl (hb hby at_114) rfl rfl k) ?_
      show Own.Fin p e below (T4.setTop (mkF m 116 #[.val (.int p1), .val (.long q2), .second, .val (.int p3), .val (.int p4), .val (.int cc), .val (.int md), .val (.int at_), .val (.int ln), .val (.int ixx), .val (.int pt), .val (.int po), .val (.ref b1), .unset, .unset, .unset] [(.ref b1)])) _
      refine Own.go (fun t k => XS.iconst X4.here hx rfl (hb hby at_116) k) ?_
      show Own.Fin p e below (T4.setTop (mkF m 117 #[.val (.int p1), .val (.long q2), .second, .val (.int p3), .val (.int p4), .val (.int cc), .val (.int md), .val (.int at_), .val (.int ln), .val (.int ixx), .val (.int pt), .val (.int po), .val (.ref b1), .unset, .unset, .unset] [(.int (3 : Int32)), (.ref b1)])) _
      refine Own.go (fun t k => XS.lloadN X4.here hx rfl (hb hby at_117) rfl k) ?_
      show Own.Fin p e below (T4.setTop (mkF m 118 #[.val (.int p1), .val (.long q2), .second, .val (.int p3), .val (.int p4), .val (.int cc), .val (.int md), .val (.int at_), .val (.int ln), .val (.int ixx), .val (.int pt), .val (.int po), .val (.ref b1), .unset, .unset, .unset] [(.long q2), (.int (3 : Int32)), (.ref b1)])) _
      refine Own.go (fun t k => XS.bipush X4.here hx rfl (hb hby at_118) k) ?_
      show Own.Fin p e below (T4.setTop (mkF m 120 #[.val (.int p1), .val (.long q2), .second, .val (.int p3), .val (.int p4), .val (.int cc), .val (.int md), .val (.int at_), .val (.int ln), .val (.int ixx), .val (.int pt), .val (.int po), .val (.ref b1), .unset, .unset, .unset] [(.int (24 : Int32)), (.long q2), (.int (3 : Int32)), (.ref b1)])) _
      refine Own.go (fun t k => XS.lushr X4.here hx rfl (hb hby at_120) rfl k) ?_
      show Own.Fin p e below (T4.setTop (mkF m 121 #[.val (.int p1), .val (.long q2), .second, .val (.int p3), .val (.int p4), .val (.int cc), .val (.int md), .val (.int at_), .val (.int ln), .val (.int ixx), .val (.int pt), .val (.int po), .val (.ref b1), .unset, .unset, .unset] [(.long (((q2).toUInt64 >>> ((24 : Int32) &&& 0x3f).toInt64.toUInt64).toInt64)), (.int (3 : Int32)), (.ref b1)])) _
      refine Own.go (fun t k => XS.l2i X4.here hx rfl (hb hby at_121) rfl k) ?_
      show Own.Fin p e below (T4.setTop (mkF m 122 #[.val (.int p1), .val (.long q2), .second, .val (.int p3), .val (.int p4), .val (.int cc), .val (.int md), .val (.int at_), .val (.int ln), .val (.int ixx), .val (.int pt), .val (.int po), .val (.ref b1), .unset, .unset, .unset] [(.int (((((q2).toUInt64 >>> ((24 : Int32) &&& 0x3f).toInt64.toUInt64).toInt64)).toInt32)), (.int (3 : Int32)), (.ref b1)])) _
      refine Own.go (fun t k => XS.i2b X4.here hx rfl (hb hby at_122) rfl k) ?_
      show Own.Fin p e below (T4.setTop (mkF m 123 #[.val (.int p1), .val (.long q2), .second, .val (.int p3), .val (.int p4), .val (.int cc), .val (.int md), .val (.int at_), .val (.int ln), .val (.int ixx), .val (.int pt), .val (.int po), .val (.ref b1), .unset, .unset, .unset] [(.int (((((((q2).toUInt64 >>> ((24 : Int32) &&& 0x3f).toInt64.toUInt64).toInt64)).toInt32)).toInt8.toInt32)), (.int (3 : Int32)), (.ref b1)])) _
      refine Own.stB X4 hx hZ e4 Vq4 (hb hby at_123) ⟨by decide, by decide⟩ 3 rfl (Nat.le_of_ble_eq_true rfl) ?_
      intro T5 h5 X5 e5 W5 V5
      have N5 := Fr.snoc X5 N4 ge1
      have Z5 : n0 ≤ h5.size := by rw [W5.size]; exact Z4
      have O5 := O4.wr W5 ge1
      have Vq5 : Arv Z h5 b1 k1 .byte (12 : Int32) [(.int (nar .byte ((((q2).toInt32)).toInt8.toInt32))), (.int (nar .byte (((((((q2).toUInt64 >>> ((8 : Int32) &&& 0x3f).toInt64.toUInt64).toInt64)).toInt32)).toInt8.toInt32))), (.int (nar .byte (((((((q2).toUInt64 >>> ((16 : Int32) &&& 0x3f).toInt64.toUInt64).toInt64)).toInt32)).toInt8.toInt32))), (.int (nar .byte (((((((q2).toUInt64 >>> ((24 : Int32) &&& 0x3f).toInt64.toUInt64).toInt64)).toInt32)).toInt8.toInt32))), (.int (0 : Int32)), (.int (0 : Int32)), (.int (0 : Int32)), (.int (0 : Int32)), (.int (0 : Int32)), (.int (0 : Int32)), (.int (0 : Int32)), (.int (0 : Int32))] (.int (0 : Int32)) := V5
      show Own.Fin p e below (T5.setTop (mkF m 124 #[.val (.int p1), .val (.long q2), .second, .val (.int p3), .val (.int p4), .val (.int cc), .val (.int md), .val (.int at_), .val (.int ln), .val (.int ixx), .val (.int pt), .val (.int po), .val (.ref b1), .unset, .unset, .unset] [])) _
      refine Own.go (fun t k => XS.aload X5.here hx rfl (hb hby at_124) rfl rfl k) ?_
      show Own.Fin p e below (T5.setTop (mkF m 126 #[.val (.int p1), .val (.long q2), .second, .val (.int p3), .val (.int p4), .val (.int cc), .val (.int md), .val (.int at_), .val (.int ln), .val (.int ixx), .val (.int pt), .val (.int po), .val (.ref b1), .unset, .unset, .unset] [(.ref b1)])) _
      refine Own.go (fun t k => XS.iconst X5.here hx rfl (hb hby at_126) k) ?_
      show Own.Fin p e below (T5.setTop (mkF m 127 #[.val (.int p1), .val (.long q2), .second, .val (.int p3), .val (.int p4), .val (.int cc), .val (.int md), .val (.int at_), .val (.int ln), .val (.int ixx), .val (.int pt), .val (.int po), .val (.ref b1), .unset, .unset, .unset] [(.int (4 : Int32)), (.ref b1)])) _
      refine Own.go (fun t k => XS.lloadN X5.here hx rfl (hb hby at_127) rfl k) ?_
      show Own.Fin p e below (T5.setTop (mkF m 128 #[.val (.int p1), .val (.long q2), .second, .val (.int p3), .val (.int p4), .val (.int cc), .val (.int md), .val (.int at_), .val (.int ln), .val (.int ixx), .val (.int pt), .val (.int po), .val (.ref b1), .unset, .unset, .unset] [(.long q2), (.int (4 : Int32)), (.ref b1)])) _
      refine Own.go (fun t k => XS.bipush X5.here hx rfl (hb hby at_128) k) ?_
      show Own.Fin p e below (T5.setTop (mkF m 130 #[.val (.int p1), .val (.long q2), .second, .val (.int p3), .val (.int p4), .val (.int cc), .val (.int md), .val (.int at_), .val (.int ln), .val (.int ixx), .val (.int pt), .val (.int po), .val (.ref b1), .unset, .unset, .unset] [(.int (32 : Int32)), (.long q2), (.int (4 : Int32)), (.ref b1)])) _
      refine Own.go (fun t k => XS.lushr X5.here hx rfl (hb hby at_130) rfl k) ?_
      show Own.Fin p e below (T5.setTop (mkF m 131 #[.val (.int p1), .val (.long q2), .second, .val (.int p3), .val (.int p4), .val (.int cc), .val (.int md), .val (.int at_), .val (.int ln), .val (.int ixx), .val (.int pt), .val (.int po), .val (.ref b1), .unset, .unset, .unset] [(.long (((q2).toUInt64 >>> ((32 : Int32) &&& 0x3f).toInt64.toUInt64).toInt64)), (.int (4 : Int32)), (.ref b1)])) _
      refine Own.go (fun t k => XS.l2i X5.here hx rfl (hb hby at_131) rfl k) ?_
      show Own.Fin p e below (T5.setTop (mkF m 132 #[.val (.int p1), .val (.long q2), .second, .val (.int p3), .val (.int p4), .val (.int cc), .val (.int md), .val (.int at_), .val (.int ln), .val (.int ixx), .val (.int pt), .val (.int po), .val (.ref b1), .unset, .unset, .unset] [(.int (((((q2).toUInt64 >>> ((32 : Int32) &&& 0x3f).toInt64.toUInt64).toInt64)).toInt32)), (.int (4 : Int32)), (.ref b1)])) _
      refine Own.go (fun t k => XS.i2b X5.here hx rfl (hb hby at_132) rfl k) ?_
      show Own.Fin p e below (T5.setTop (mkF m 133 #[.val (.int p1), .val (.long q2), .second, .val (.int p3), .val (.int p4), .val (.int cc), .val (.int md), .val (.int at_), .val (.int ln), .val (.int ixx), .val (.int pt), .val (.int po), .val (.ref b1), .unset, .unset, .unset] [(.int (((((((q2).toUInt64 >>> ((32 : Int32) &&& 0x3f).toInt64.toUInt64).toInt64)).toInt32)).toInt8.toInt32)), (.int (4 : Int32)), (.ref b1)])) _
      refine Own.stB X5 hx hZ e5 Vq5 (hb hby at_133) ⟨by decide, by decide⟩ 4 rfl (Nat.le_of_ble_eq_true rfl) ?_
      intro T6 h6 X6 e6 W6 V6
      have N6 := Fr.snoc X6 N5 ge1
      have Z6 : n0 ≤ h6.size := by rw [W6.size]; exact Z5
      have O6 := O5.wr W6 ge1
      have Vq6 : Arv Z h6 b1 k1 .byte (12 : Int32) [(.int (nar .byte ((((q2).toInt32)).toInt8.toInt32))), (.int (nar .byte (((((((q2).toUInt64 >>> ((8 : Int32) &&& 0x3f).toInt64.toUInt64).toInt64)).toInt32)).toInt8.toInt32))), (.int (nar .byte (((((((q2).toUInt64 >>> ((16 : Int32) &&& 0x3f).toInt64.toUInt64).toInt64)).toInt32)).toInt8.toInt32))), (.int (nar .byte (((((((q2).toUInt64 >>> ((24 : Int32) &&& 0x3f).toInt64.toUInt64).toInt64)).toInt32)).toInt8.toInt32))), (.int (nar .byte (((((((q2).toUInt64 >>> ((32 : Int32) &&& 0x3f).toInt64.toUInt64).toInt64)).toInt32)).toInt8.toInt32))), (.int (0 : Int32)), (.int (0 : Int32)), (.int (0 : Int32)), (.int (0 : Int32)), (.int (0 : Int32)), (.int (0 : Int32)), (.int (0 : Int32))] (.int (0 : Int32)) := V6
      show Own.Fin p e below (T6.setTop (mkF m 134 #[.val (.int p1), .val (.long q2), .second, .val (.int p3), .val (.int p4), .val (.int cc), .val (.int md), .val (.int at_), .val (.int ln), .val (.int ixx), .val (.int pt), .val (.int po), .val (.ref b1), .unset, .unset, .unset] [])) _
      refine Own.go (fun t k => XS.aload X6.here hx rfl (hb hby at_134) rfl rfl k) ?_
      show Own.Fin p e below (T6.setTop (mkF m 136 #[.val (.int p1), .val (.long q2), .second, .val (.int p3), .val (.int p4), .val (.int cc), .val (.int md), .val (.int at_), .val (.int ln), .val (.int ixx), .val (.int pt), .val (.int po), .val (.ref b1), .unset, .unset, .unset] [(.ref b1)])) _
      refine Own.go (fun t k => XS.iconst X6.here hx rfl (hb hby at_136) k) ?_
      show Own.Fin p e below (T6.setTop (mkF m 137 #[.val (.int p1), .val (.long q2), .second, .val (.int p3), .val (.int p4), .val (.int cc), .val (.int md), .val (.int at_), .val (.int ln), .val (.int ixx), .val (.int pt), .val (.int po), .val (.ref b1), .unset, .unset, .unset] [(.int (5 : Int32)), (.ref b1)])) _
      refine Own.go (fun t k => XS.lloadN X6.here hx rfl (hb hby at_137) rfl k) ?_
      show Own.Fin p e below (T6.setTop (mkF m 138 #[.val (.int p1), .val (.long q2), .second, .val (.int p3), .val (.int p4), .val (.int cc), .val (.int md), .val (.int at_), .val (.int ln), .val (.int ixx), .val (.int pt), .val (.int po), .val (.ref b1), .unset, .unset, .unset] [(.long q2), (.int (5 : Int32)), (.ref b1)])) _
      refine Own.go (fun t k => XS.bipush X6.here hx rfl (hb hby at_138) k) ?_
      show Own.Fin p e below (T6.setTop (mkF m 140 #[.val (.int p1), .val (.long q2), .second, .val (.int p3), .val (.int p4), .val (.int cc), .val (.int md), .val (.int at_), .val (.int ln), .val (.int ixx), .val (.int pt), .val (.int po), .val (.ref b1), .unset, .unset, .unset] [(.int (40 : Int32)), (.long q2), (.int (5 : Int32)), (.ref b1)])) _
      refine Own.go (fun t k => XS.lushr X6.here hx rfl (hb hby at_140) rfl k) ?_
      show Own.Fin p e below (T6.setTop (mkF m 141 #[.val (.int p1), .val (.long q2), .second, .val (.int p3), .val (.int p4), .val (.int cc), .val (.int md), .val (.int at_), .val (.int ln), .val (.int ixx), .val (.int pt), .val (.int po), .val (.ref b1), .unset, .unset, .unset] [(.long (((q2).toUInt64 >>> ((40 : Int32) &&& 0x3f).toInt64.toUInt64).toInt64)), (.int (5 : Int32)), (.ref b1)])) _
      refine Own.go (fun t k => XS.l2i X6.here hx rfl (hb hby at_141) rfl k) ?_
      show Own.Fin p e below (T6.setTop (mkF m 142 #[.val (.int p1), .val (.long q2), .second, .val (.int p3), .val (.int p4), .val (.int cc), .val (.int md), .val (.int at_), .val (.int ln), .val (.int ixx), .val (.int pt), .val (.int po), .val (.ref b1), .unset, .unset, .unset] [(.int (((((q2).toUInt64 >>> ((40 : Int32) &&& 0x3f).toInt64.toUInt64).toInt64)).toInt32)), (.int (5 : Int32)), (.ref b1)])) _
      refine Own.go (fun t k => XS.i2b X6.here hx rfl (hb hby at_142) rfl k) ?_
      show Own.Fin p e below (T6.setTop (mkF m 143 #[.val (.int p1), .val (.long q2), .second, .val (.int p3), .val (.int p4), .val (.int cc), .val (.int md), .val (.int at_), .val (.int ln), .val (.int ixx), .val (.int pt), .val (.int po), .val (.ref b1), .unset, .unset, .unset] [(.int (((((((q2).toUInt64 >>> ((40 : Int32) &&& 0x3f).toInt64.toUInt64).toInt64)).toInt32)).toInt8.toInt32)), (.int (5 : Int32)), (.ref b1)])) _
      refine Own.stB X6 hx hZ e6 Vq6 (hb hby at_143) ⟨by decide, by decide⟩ 5 rfl (Nat.le_of_ble_eq_true rfl) ?_
      intro T7 h7 X7 e7 W7 V7
      have N7 := Fr.snoc X7 N6 ge1
      have Z7 : n0 ≤ h7.size := by rw [W7.size]; exact Z6
      have O7 := O6.wr W7 ge1
      have Vq7 : Arv Z h7 b1 k1 .byte (12 : Int32) [(.int (nar .byte ((((q2).toInt32)).toInt8.toInt32))), (.int (nar .byte (((((((q2).toUInt64 >>> ((8 : Int32) &&& 0x3f).toInt64.toUInt64).toInt64)).toInt32)).toInt8.toInt32))), (.int (nar .byte (((((((q2).toUInt64 >>> ((16 : Int32) &&& 0x3f).toInt64.toUInt64).toInt64)).toInt32)).toInt8.toInt32))), (.int (nar .byte (((((((q2).toUInt64 >>> ((24 : Int32) &&& 0x3f).toInt64.toUInt64).toInt64)).toInt32)).toInt8.toInt32))), (.int (nar .byte (((((((q2).toUInt64 >>> ((32 : Int32) &&& 0x3f).toInt64.toUInt64).toInt64)).toInt32)).toInt8.toInt32))), (.int (nar .byte (((((((q2).toUInt64 >>> ((40 : Int32) &&& 0x3f).toInt64.toUInt64).toInt64)).toInt32)).toInt8.toInt32))), (.int (0 : Int32)), (.int (0 : Int32)), (.int (0 : Int32)), (.int (0 : Int32)), (.int (0 : Int32)), (.int (0 : Int32))] (.int (0 : Int32)) := V7
      show Own.Fin p e below (T7.setTop (mkF m 144 #[.val (.int p1), .val (.long q2), .second, .val (.int p3), .val (.int p4), .val (.int cc), .val (.int md), .val (.int at_), .val (.int ln), .val (.int ixx), .val (.int pt), .val (.int po), .val (.ref b1), .unset, .unset, .unset] [])) _
      refine Own.go (fun t k => XS.aload X7.here hx rfl (hb hby at_144) rfl rfl k) ?_
      show Own.Fin p e below (T7.setTop (mkF m 146 #[.val (.int p1), .val (.long q2), .second, .val (.int p3), .val (.int p4), .val (.int cc), .val (.int md), .val (.int at_), .val (.int ln), .val (.int ixx), .val (.int pt), .val (.int po), .val (.ref b1), .unset, .unset, .unset] [(.ref b1)])) _
      refine Own.go (fun t k => XS.bipush X7.here hx rfl (hb hby at_146) k) ?_
      show Own.Fin p e below (T7.setTop (mkF m 148 #[.val (.int p1), .val (.long q2), .second, .val (.int p3), .val (.int p4), .val (.int cc), .val (.int md), .val (.int at_), .val (.int ln), .val (.int ixx), .val (.int pt), .val (.int po), .val (.ref b1), .unset, .unset, .unset] [(.int (6 : Int32)), (.ref b1)])) _
      refine Own.go (fun t k => XS.lloadN X7.here hx rfl (hb hby at_148) rfl k) ?_
      show Own.Fin p e below (T7.setTop (mkF m 149 #[.val (.int p1), .val (.long q2), .second, .val (.int p3), .val (.int p4), .val (.int cc), .val (.int md), .val (.int at_), .val (.int ln), .val (.int ixx), .val (.int pt), .val (.int po), .val (.ref b1), .unset, .unset, .unset] [(.long q2), (.int (6 : Int32)), (.ref b1)])) _
      refine Own.go (fun t k => XS.bipush X7.here hx rfl (hb hby at_149) k) ?_
      show Own.Fin p e below (T7.setTop (mkF m 151 #[.val (.int p1), .val (.long q2), .second, .val (.int p3), .val (.int p4), .val (.int cc), .val (.int md), .val (.int at_), .val (.int ln), .val (.int ixx), .val (.int pt), .val (.int po), .val (.ref b1), .unset, .unset, .unset] [(.int (48 : Int32)), (.long q2), (.int (6 : Int32)), (.ref b1)])) _
      refine Own.go (fun t k => XS.lushr X7.here hx rfl (hb hby at_151) rfl k) ?_
      show Own.Fin p e below (T7.setTop (mkF m 152 #[.val (.int p1), .val (.long q2), .second, .val (.int p3), .val (.int p4), .val (.int cc), .val (.int md), .val (.int at_), .val (.int ln), .val (.int ixx), .val (.int pt), .val (.int po), .val (.ref b1), .unset, .unset, .unset] [(.long (((q2).toUInt64 >>> ((48 : Int32) &&& 0x3f).toInt64.toUInt64).toInt64)), (.int (6 : Int32)), (.ref b1)])) _
      refine Own.go (fun t k => XS.l2i X7.here hx rfl (hb hby at_152) rfl k) ?_
      show Own.Fin p e below (T7.setTop (mkF m 153 #[.val (.int p1), .val (.long q2), .second, .val (.int p3), .val (.int p4), .val (.int cc), .val (.int md), .val (.int at_), .val (.int ln), .val (.int ixx), .val (.int pt), .val (.int po), .val (.ref b1), .unset, .unset, .unset] [(.int (((((q2).toUInt64 >>> ((48 : Int32) &&& 0x3f).toInt64.toUInt64).toInt64)).toInt32)), (.int (6 : Int32)), (.ref b1)])) _
      refine Own.go (fun t k => XS.i2b X7.here hx rfl (hb hby at_153) rfl k) ?_
      show Own.Fin p e below (T7.setTop (mkF m 154 #[.val (.int p1), .val (.long q2), .second, .val (.int p3), .val (.int p4), .val (.int cc), .val (.int md), .val (.int at_), .val (.int ln), .val (.int ixx), .val (.int pt), .val (.int po), .val (.ref b1), .unset, .unset, .unset] [(.int (((((((q2).toUInt64 >>> ((48 : Int32) &&& 0x3f).toInt64.toUInt64).toInt64)).toInt32)).toInt8.toInt32)), (.int (6 : Int32)), (.ref b1)])) _
      refine Own.stB X7 hx hZ e7 Vq7 (hb hby at_154) ⟨by decide, by decide⟩ 6 rfl (Nat.le_of_ble_eq_true rfl) ?_
      intro T8 h8 X8 e8 W8 V8
      have N8 := Fr.snoc X8 N7 ge1
      have Z8 : n0 ≤ h8.size := by rw [W8.size]; exact Z7
      have O8 := O7.wr W8 ge1
      have Vq8 : Arv Z h8 b1 k1 .byte (12 : Int32) [(.int (nar .byte ((((q2).toInt32)).toInt8.toInt32))), (.int (nar .byte (((((((q2).toUInt64 >>> ((8 : Int32) &&& 0x3f).toInt64.toUInt64).toInt64)).toInt32)).toInt8.toInt32))), (.int (nar .byte (((((((q2).toUInt64 >>> ((16 : Int32) &&& 0x3f).toInt64.toUInt64).toInt64)).toInt32)).toInt8.toInt32))), (.int (nar .byte (((((((q2).toUInt64 >>> ((24 : Int32) &&& 0x3f).toInt64.toUInt64).toInt64)).toInt32)).toInt8.toInt32))), (.int (nar .byte (((((((q2).toUInt64 >>> ((32 : Int32) &&& 0x3f).toInt64.toUInt64).toInt64)).toInt32)).toInt8.toInt32))), (.int (nar .byte (((((((q2).toUInt64 >>> ((40 : Int32) &&& 0x3f).toInt64.toUInt64).toInt64)).toInt32)).toInt8.toInt32))), (.int (nar .byte (((((((q2).toUInt64 >>> ((48 : Int32) &&& 0x3f).toInt64.toUInt64).toInt64)).toInt32)).toInt8.toInt32))), (.int (0 : Int32)), (.int (0 : Int32)), (.int (0 : Int32)), (.int (0 : Int32)), (.int (0 : Int32))] (.int (0 : Int32)) := V8
      show Own.Fin p e below (T8.setTop (mkF m 155 #[.val (.int p1), .val (.long q2), .second, .val (.int p3), .val (.int p4), .val (.int cc), .val (.int md), .val (.int at_), .val (.int ln), .val (.int ixx), .val (.int pt), .val (.int po), .val (.ref b1), .unset, .unset, .unset] [])) _
      refine Own.go (fun t k => XS.aload X8.here hx rfl (hb hby at_155) rfl rfl k) ?_
      show Own.Fin p e below (T8.setTop (mkF m 157 #[.val (.int p1), .val (.long q2), .second, .val (.int p3), .val (.int p4), .val (.int cc), .val (.int md), .val (.int at_), .val (.int ln), .val (.int ixx), .val (.int pt), .val (.int po), .val (.ref b1), .unset, .unset, .unset] [(.ref b1)])) _
      refine Own.go (fun t k => XS.bipush X8.here hx rfl (hb hby at_157) k) ?_
      show Own.Fin p e below (T8.setTop (mkF m 159 #[.val (.int p1), .val (.long q2), .second, .val (.int p3), .val (.int p4), .val (.int cc), .val (.int md), .val (.int at_), .val (.int ln), .val (.int ixx), .val (.int pt), .val (.int po), .val (.ref b1), .unset, .unset, .unset] [(.int (7 : Int32)), (.ref b1)])) _
      refine Own.go (fun t k => XS.lloadN X8.here hx rfl (hb hby at_159) rfl k) ?_
      show Own.Fin p e below (T8.setTop (mkF m 160 #[.val (.int p1), .val (.long q2), .second, .val (.int p3), .val (.int p4), .val (.int cc), .val (.int md), .val (.int at_), .val (.int ln), .val (.int ixx), .val (.int pt), .val (.int po), .val (.ref b1), .unset, .unset, .unset] [(.long q2), (.int (7 : Int32)), (.ref b1)])) _
      refine Own.go (fun t k => XS.bipush X8.here hx rfl (hb hby at_160) k) ?_
      show Own.Fin p e below (T8.setTop (mkF m 162 #[.val (.int p1), .val (.long q2), .second, .val (.int p3), .val (.int p4), .val (.int cc), .val (.int md), .val (.int at_), .val (.int ln), .val (.int ixx), .val (.int pt), .val (.int po), .val (.ref b1), .unset, .unset, .unset] [(.int (56 : Int32)), (.long q2), (.int (7 : Int32)), (.ref b1)])) _
      refine Own.go (fun t k => XS.lushr X8.here hx rfl (hb hby at_162) rfl k) ?_
      show Own.Fin p e below (T8.setTop (mkF m 163 #[.val (.int p1), .val (.long q2), .second, .val (.int p3), .val (.int p4), .val (.int cc), .val (.int md), .val (.int at_), .val (.int ln), .val (.int ixx), .val (.int pt), .val (.int po), .val (.ref b1), .unset, .unset, .unset] [(.long (((q2).toUInt64 >>> ((56 : Int32) &&& 0x3f).toInt64.toUInt64).toInt64)), (.int (7 : Int32)), (.ref b1)])) _
      refine Own.go (fun t k => XS.l2i X8.here hx rfl (hb hby at_163) rfl k) ?_
      show Own.Fin p e below (T8.setTop (mkF m 164 #[.val (.int p1), .val (.long q2), .second, .val (.int p3), .val (.int p4), .val (.int cc), .val (.int md), .val (.int at_), .val (.int ln), .val (.int ixx), .val (.int pt), .val (.int po), .val (.ref b1), .unset, .unset, .unset] [(.int (((((q2).toUInt64 >>> ((56 : Int32) &&& 0x3f).toInt64.toUInt64).toInt64)).toInt32)), (.int (7 : Int32)), (.ref b1)])) _
      refine Own.go (fun t k => XS.i2b X8.here hx rfl (hb hby at_164) rfl k) ?_
      show Own.Fin p e below (T8.setTop (mkF m 165 #[.val (.int p1), .val (.long q2), .second, .val (.int p3), .val (.int p4), .val (.int cc), .val (.int md), .val (.int at_), .val (.int ln), .val (.int ixx), .val (.int pt), .val (.int po), .val (.ref b1), .unset, .unset, .unset] [(.int (((((((q2).toUInt64 >>> ((56 : Int32) &&& 0x3f).toInt64.toUInt64).toInt64)).toInt32)).toInt8.toInt32)), (.int (7 : Int32)), (.ref b1)])) _
      refine Own.stB X8 hx hZ e8 Vq8 (hb hby at_165) ⟨by decide, by decide⟩ 7 rfl (Nat.le_of_ble_eq_true rfl) ?_
      intro T9 h9 X9 e9 W9 V9
      have N9 := Fr.snoc X9 N8 ge1
      have Z9 : n0 ≤ h9.size := by rw [W9.size]; exact Z8
      have O9 := O8.wr W9 ge1
      have Vq9 : Arv Z h9 b1 k1 .byte (12 : Int32) [(.int (nar .byte ((((q2).toInt32)).toInt8.toInt32))), (.int (nar .byte (((((((q2).toUInt64 >>> ((8 : Int32) &&& 0x3f).toInt64.toUInt64).toInt64)).toInt32)).toInt8.toInt32))), (.int (nar .byte (((((((q2).toUInt64 >>> ((16 : Int32) &&& 0x3f).toInt64.toUInt64).toInt64)).toInt32)).toInt8.toInt32))), (.int (nar .byte (((((((q2).toUInt64 >>> ((24 : Int32) &&& 0x3f).toInt64.toUInt64).toInt64)).toInt32)).toInt8.toInt32))), (.int (nar .byte (((((((q2).toUInt64 >>> ((32 : Int32) &&& 0x3f).toInt64.toUInt64).toInt64)).toInt32)).toInt8.toInt32))), (.int (nar .byte (((((((q2).toUInt64 >>> ((40 : Int32) &&& 0x3f).toInt64.toUInt64).toInt64)).toInt32)).toInt8.toInt32))), (.int (nar .byte (((((((q2).toUInt64 >>> ((48 : Int32) &&& 0x3f).toInt64.toUInt64).toInt64)).toInt32)).toInt8.toInt32))), (.int (nar .byte (((((((q2).toUInt64 >>> ((56 : Int32) &&& 0x3f).toInt64.toUInt64).toInt64)).toInt32)).toInt8.toInt32))), (.int (0 : Int32)), (.int (0 : Int32)), (.int (0 : Int32)), (.int (0 : Int32))] (.int (0 : Int32)) := V9
      show Own.Fin p e below (T9.setTop (mkF m 166 #[.val (.int p1), .val (.long q2), .second, .val (.int p3), .val (.int p4), .val (.int cc), .val (.int md), .val (.int at_), .val (.int ln), .val (.int ixx), .val (.int pt), .val (.int po), .val (.ref b1), .unset, .unset, .unset] [])) _
      refine Own.go (fun t k => XS.aload X9.here hx rfl (hb hby at_166) rfl rfl k) ?_
      show Own.Fin p e below (T9.setTop (mkF m 168 #[.val (.int p1), .val (.long q2), .second, .val (.int p3), .val (.int p4), .val (.int cc), .val (.int md), .val (.int at_), .val (.int ln), .val (.int ixx), .val (.int pt), .val (.int po), .val (.ref b1), .unset, .unset, .unset] [(.ref b1)])) _
      refine Own.go (fun t k => XS.bipush X9.here hx rfl (hb hby at_168) k) ?_
      show Own.Fin p e below (T9.setTop (mkF m 170 #[.val (.int p1), .val (.long q2), .second, .val (.int p3), .val (.int p4), .val (.int cc), .val (.int md), .val (.int at_), .val (.int ln), .val (.int ixx), .val (.int pt), .val (.int po), .val (.ref b1), .unset, .unset, .unset] [(.int (8 : Int32)), (.ref b1)])) _
      refine Own.go (fun t k => XS.lloadN X9.here hx rfl (hb hby at_170) rfl k) ?_
      show Own.Fin p e below (T9.setTop (mkF m 171 #[.val (.int p1), .val (.long q2), .second, .val (.int p3), .val (.int p4), .val (.int cc), .val (.int md), .val (.int at_), .val (.int ln), .val (.int ixx), .val (.int pt), .val (.int po), .val (.ref b1), .unset, .unset, .unset] [(.long q2), (.int (8 : Int32)), (.ref b1)])) _
      refine Own.go (fun t k => XS.iconst X9.here hx rfl (hb hby at_171) k) ?_
      show Own.Fin p e below (T9.setTop (mkF m 172 #[.val (.int p1), .val (.long q2), .second, .val (.int p3), .val (.int p4), .val (.int cc), .val (.int md), .val (.int at_), .val (.int ln), .val (.int ixx), .val (.int pt), .val (.int po), .val (.ref b1), .unset, .unset, .unset] [(.int (4 : Int32)), (.long q2), (.int (8 : Int32)), (.ref b1)])) _
      refine Own.go (fun t k => XS.lushr X9.here hx rfl (hb hby at_172) rfl k) ?_
      show Own.Fin p e below (T9.setTop (mkF m 173 #[.val (.int p1), .val (.long q2), .second, .val (.int p3), .val (.int p4), .val (.int cc), .val (.int md), .val (.int at_), .val (.int ln), .val (.int ixx), .val (.int pt), .val (.int po), .val (.ref b1), .unset, .unset, .unset] [(.long (((q2).toUInt64 >>> ((4 : Int32) &&& 0x3f).toInt64.toUInt64).toInt64)), (.int (8 : Int32)), (.ref b1)])) _
      refine Own.go (fun t k => XS.l2i X9.here hx rfl (hb hby at_173) rfl k) ?_
      show Own.Fin p e below (T9.setTop (mkF m 174 #[.val (.int p1), .val (.long q2), .second, .val (.int p3), .val (.int p4), .val (.int cc), .val (.int md), .val (.int at_), .val (.int ln), .val (.int ixx), .val (.int pt), .val (.int po), .val (.ref b1), .unset, .unset, .unset] [(.int (((((q2).toUInt64 >>> ((4 : Int32) &&& 0x3f).toInt64.toUInt64).toInt64)).toInt32)), (.int (8 : Int32)), (.ref b1)])) _
      refine Own.go (fun t k => XS.i2b X9.here hx rfl (hb hby at_174) rfl k) ?_
      show Own.Fin p e below (T9.setTop (mkF m 175 #[.val (.int p1), .val (.long q2), .second, .val (.int p3), .val (.int p4), .val (.int cc), .val (.int md), .val (.int at_), .val (.int ln), .val (.int ixx), .val (.int pt), .val (.int po), .val (.ref b1), .unset, .unset, .unset] [(.int (((((((q2).toUInt64 >>> ((4 : Int32) &&& 0x3f).toInt64.toUInt64).toInt64)).toInt32)).toInt8.toInt32)), (.int (8 : Int32)), (.ref b1)])) _
      refine Own.stB X9 hx hZ e9 Vq9 (hb hby at_175) ⟨by decide, by decide⟩ 8 rfl (Nat.le_of_ble_eq_true rfl) ?_
      intro T10 h10 X10 e10 W10 V10
      have N10 := Fr.snoc X10 N9 ge1
      have Z10 : n0 ≤ h10.size := by rw [W10.size]; exact Z9
      have O10 := O9.wr W10 ge1
      have Vq10 : Arv Z h10 b1 k1 .byte (12 : Int32) [(.int (nar .byte ((((q2).toInt32)).toInt8.toInt32))), (.int (nar .byte (((((((q2).toUInt64 >>> ((8 : Int32) &&& 0x3f).toInt64.toUInt64).toInt64)).toInt32)).toInt8.toInt32))), (.int (nar .byte (((((((q2).toUInt64 >>> ((16 : Int32) &&& 0x3f).toInt64.toUInt64).toInt64)).toInt32)).toInt8.toInt32))), (.int (nar .byte (((((((q2).toUInt64 >>> ((24 : Int32) &&& 0x3f).toInt64.toUInt64).toInt64)).toInt32)).toInt8.toInt32))), (.int (nar .byte (((((((q2).toUInt64 >>> ((32 : Int32) &&& 0x3f).toInt64.toUInt64).toInt64)).toInt32)).toInt8.toInt32))), (.int (nar .byte (((((((q2).toUInt64 >>> ((40 : Int32) &&& 0x3f).toInt64.toUInt64).toInt64)).toInt32)).toInt8.toInt32))), (.int (nar .byte (((((((q2).toUInt64 >>> ((48 : Int32) &&& 0x3f).toInt64.toUInt64).toInt64)).toInt32)).toInt8.toInt32))), (.int (nar .byte (((((((q2).toUInt64 >>> ((56 : Int32) &&& 0x3f).toInt64.toUInt64).toInt64)).toInt32)).toInt8.toInt32))), (.int (nar .byte (((((((q2).toUInt64 >>> ((4 : Int32) &&& 0x3f).toInt64.toUInt64).toInt64)).toInt32)).toInt8.toInt32))), (.int (0 : Int32)), (.int (0 : Int32)), (.int (0 : Int32))] (.int (0 : Int32)) := V10
      show Own.Fin p e below (T10.setTop (mkF m 176 #[.val (.int p1), .val (.long q2), .second, .val (.int p3), .val (.int p4), .val (.int cc), .val (.int md), .val (.int at_), .val (.int ln), .val (.int ixx), .val (.int pt), .val (.int po), .val (.ref b1), .unset, .unset, .unset] [])) _
      refine Own.go (fun t k => XS.aload X10.here hx rfl (hb hby at_176) rfl rfl k) ?_
      show Own.Fin p e below (T10.setTop (mkF m 178 #[.val (.int p1), .val (.long q2), .second, .val (.int p3), .val (.int p4), .val (.int cc), .val (.int md), .val (.int at_), .val (.int ln), .val (.int ixx), .val (.int pt), .val (.int po), .val (.ref b1), .unset, .unset, .unset] [(.ref b1)])) _
      refine Own.go (fun t k => XS.bipush X10.here hx rfl (hb hby at_178) k) ?_
      show Own.Fin p e below (T10.setTop (mkF m 180 #[.val (.int p1), .val (.long q2), .second, .val (.int p3), .val (.int p4), .val (.int cc), .val (.int md), .val (.int at_), .val (.int ln), .val (.int ixx), .val (.int pt), .val (.int po), .val (.ref b1), .unset, .unset, .unset] [(.int (9 : Int32)), (.ref b1)])) _
      refine Own.go (fun t k => XS.lloadN X10.here hx rfl (hb hby at_180) rfl k) ?_
      show Own.Fin p e below (T10.setTop (mkF m 181 #[.val (.int p1), .val (.long q2), .second, .val (.int p3), .val (.int p4), .val (.int cc), .val (.int md), .val (.int at_), .val (.int ln), .val (.int ixx), .val (.int pt), .val (.int po), .val (.ref b1), .unset, .unset, .unset] [(.long q2), (.int (9 : Int32)), (.ref b1)])) _
      refine Own.go (fun t k => XS.bipush X10.here hx rfl (hb hby at_181) k) ?_
      show Own.Fin p e below (T10.setTop (mkF m 183 #[.val (.int p1), .val (.long q2), .second, .val (.int p3), .val (.int p4), .val (.int cc), .val (.int md), .val (.int at_), .val (.int ln), .val (.int ixx), .val (.int pt), .val (.int po), .val (.ref b1), .unset, .unset, .unset] [(.int (12 : Int32)), (.long q2), (.int (9 : Int32)), (.ref b1)])) _
      refine Own.go (fun t k => XS.lushr X10.here hx rfl (hb hby at_183) rfl k) ?_
      show Own.Fin p e below (T10.setTop (mkF m 184 #[.val (.int p1), .val (.long q2), .second, .val (.int p3), .val (.int p4), .val (.int cc), .val (.int md), .val (.int at_), .val (.int ln), .val (.int ixx), .val (.int pt), .val (.int po), .val (.ref b1), .unset, .unset, .unset] [(.long (((q2).toUInt64 >>> ((12 : Int32) &&& 0x3f).toInt64.toUInt64).toInt64)), (.int (9 : Int32)), (.ref b1)])) _
      refine Own.go (fun t k => XS.l2i X10.here hx rfl (hb hby at_184) rfl k) ?_
      show Own.Fin p e below (T10.setTop (mkF m 185 #[.val (.int p1), .val (.long q2), .second, .val (.int p3), .val (.int p4), .val (.int cc), .val (.int md), .val (.int at_), .val (.int ln), .val (.int ixx), .val (.int pt), .val (.int po), .val (.ref b1), .unset, .unset, .unset] [(.int (((((q2).toUInt64 >>> ((12 : Int32) &&& 0x3f).toInt64.toUInt64).toInt64)).toInt32)), (.int (9 : Int32)), (.ref b1)])) _
      refine Own.go (fun t k => XS.i2b X10.here hx rfl (hb hby at_185) rfl k) ?_
      show Own.Fin p e below (T10.setTop (mkF m 186 #[.val (.int p1), .val (.long q2), .second, .val (.int p3), .val (.int p4), .val (.int cc), .val (.int md), .val (.int at_), .val (.int ln), .val (.int ixx), .val (.int pt), .val (.int po), .val (.ref b1), .unset, .unset, .unset] [(.int (((((((q2).toUInt64 >>> ((12 : Int32) &&& 0x3f).toInt64.toUInt64).toInt64)).toInt32)).toInt8.toInt32)), (.int (9 : Int32)), (.ref b1)])) _
      refine Own.stB X10 hx hZ e10 Vq10 (hb hby at_186) ⟨by decide, by decide⟩ 9 rfl (Nat.le_of_ble_eq_true rfl) ?_
      intro T11 h11 X11 e11 W11 V11
      have N11 := Fr.snoc X11 N10 ge1
      have Z11 : n0 ≤ h11.size := by rw [W11.size]; exact Z10
      have O11 := O10.wr W11 ge1
      have Vq11 : Arv Z h11 b1 k1 .byte (12 : Int32) [(.int (nar .byte ((((q2).toInt32)).toInt8.toInt32))), (.int (nar .byte (((((((q2).toUInt64 >>> ((8 : Int32) &&& 0x3f).toInt64.toUInt64).toInt64)).toInt32)).toInt8.toInt32))), (.int (nar .byte (((((((q2).toUInt64 >>> ((16 : Int32) &&& 0x3f).toInt64.toUInt64).toInt64)).toInt32)).toInt8.toInt32))), (.int (nar .byte (((((((q2).toUInt64 >>> ((24 : Int32) &&& 0x3f).toInt64.toUInt64).toInt64)).toInt32)).toInt8.toInt32))), (.int (nar .byte (((((((q2).toUInt64 >>> ((32 : Int32) &&& 0x3f).toInt64.toUInt64).toInt64)).toInt32)).toInt8.toInt32))), (.int (nar .byte (((((((q2).toUInt64 >>> ((40 : Int32) &&& 0x3f).toInt64.toUInt64).toInt64)).toInt32)).toInt8.toInt32))), (.int (nar .byte (((((((q2).toUInt64 >>> ((48 : Int32) &&& 0x3f).toInt64.toUInt64).toInt64)).toInt32)).toInt8.toInt32))), (.int (nar .byte (((((((q2).toUInt64 >>> ((56 : Int32) &&& 0x3f).toInt64.toUInt64).toInt64)).toInt32)).toInt8.toInt32))), (.int (nar .byte (((((((q2).toUInt64 >>> ((4 : Int32) &&& 0x3f).toInt64.toUInt64).toInt64)).toInt32)).toInt8.toInt32))), (.int (nar .byte (((((((q2).toUInt64 >>> ((12 : Int32) &&& 0x3f).toInt64.toUInt64).toInt64)).toInt32)).toInt8.toInt32))), (.int (0 : Int32)), (.int (0 : Int32))] (.int (0 : Int32)) := V11
      show Own.Fin p e below (T11.setTop (mkF m 187 #[.val (.int p1), .val (.long q2), .second, .val (.int p3), .val (.int p4), .val (.int cc), .val (.int md), .val (.int at_), .val (.int ln), .val (.int ixx), .val (.int pt), .val (.int po), .val (.ref b1), .unset, .unset, .unset] [])) _
      refine Own.go (fun t k => XS.aload X11.here hx rfl (hb hby at_187) rfl rfl k) ?_
      show Own.Fin p e below (T11.setTop (mkF m 189 #[.val (.int p1), .val (.long q2), .second, .val (.int p3), .val (.int p4), .val (.int cc), .val (.int md), .val (.int at_), .val (.int ln), .val (.int ixx), .val (.int pt), .val (.int po), .val (.ref b1), .unset, .unset, .unset] [(.ref b1)])) _
      refine Own.go (fun t k => XS.bipush X11.here hx rfl (hb hby at_189) k) ?_
      show Own.Fin p e below (T11.setTop (mkF m 191 #[.val (.int p1), .val (.long q2), .second, .val (.int p3), .val (.int p4), .val (.int cc), .val (.int md), .val (.int at_), .val (.int ln), .val (.int ixx), .val (.int pt), .val (.int po), .val (.ref b1), .unset, .unset, .unset] [(.int (10 : Int32)), (.ref b1)])) _
      refine Own.go (fun t k => XS.lloadN X11.here hx rfl (hb hby at_191) rfl k) ?_
      show Own.Fin p e below (T11.setTop (mkF m 192 #[.val (.int p1), .val (.long q2), .second, .val (.int p3), .val (.int p4), .val (.int cc), .val (.int md), .val (.int at_), .val (.int ln), .val (.int ixx), .val (.int pt), .val (.int po), .val (.ref b1), .unset, .unset, .unset] [(.long q2), (.int (10 : Int32)), (.ref b1)])) _
      refine Own.go (fun t k => XS.bipush X11.here hx rfl (hb hby at_192) k) ?_
      show Own.Fin p e below (T11.setTop (mkF m 194 #[.val (.int p1), .val (.long q2), .second, .val (.int p3), .val (.int p4), .val (.int cc), .val (.int md), .val (.int at_), .val (.int ln), .val (.int ixx), .val (.int pt), .val (.int po), .val (.ref b1), .unset, .unset, .unset] [(.int (20 : Int32)), (.long q2), (.int (10 : Int32)), (.ref b1)])) _
      refine Own.go (fun t k => XS.lushr X11.here hx rfl (hb hby at_194) rfl k) ?_
      show Own.Fin p e below (T11.setTop (mkF m 195 #[.val (.int p1), .val (.long q2), .second, .val (.int p3), .val (.int p4), .val (.int cc), .val (.int md), .val (.int at_), .val (.int ln), .val (.int ixx), .val (.int pt), .val (.int po), .val (.ref b1), .unset, .unset, .unset] [(.long (((q2).toUInt64 >>> ((20 : Int32) &&& 0x3f).toInt64.toUInt64).toInt64)), (.int (10 : Int32)), (.ref b1)])) _
      refine Own.go (fun t k => XS.l2i X11.here hx rfl (hb hby at_195) rfl k) ?_
      show Own.Fin p e below (T11.setTop (mkF m 196 #[.val (.int p1), .val (.long q2), .second, .val (.int p3), .val (.int p4), .val (.int cc), .val (.int md), .val (.int at_), .val (.int ln), .val (.int ixx), .val (.int pt), .val (.int po), .val (.ref b1), .unset, .unset, .unset] [(.int (((((q2).toUInt64 >>> ((20 : Int32) &&& 0x3f).toInt64.toUInt64).toInt64)).toInt32)), (.int (10 : Int32)), (.ref b1)])) _
      refine Own.go (fun t k => XS.i2b X11.here hx rfl (hb hby at_196) rfl k) ?_
      show Own.Fin p e below (T11.setTop (mkF m 197 #[.val (.int p1), .val (.long q2), .second, .val (.int p3), .val (.int p4), .val (.int cc), .val (.int md), .val (.int at_), .val (.int ln), .val (.int ixx), .val (.int pt), .val (.int po), .val (.ref b1), .unset, .unset, .unset] [(.int (((((((q2).toUInt64 >>> ((20 : Int32) &&& 0x3f).toInt64.toUInt64).toInt64)).toInt32)).toInt8.toInt32)), (.int (10 : Int32)), (.ref b1)])) _
      refine Own.stB X11 hx hZ e11 Vq11 (hb hby at_197) ⟨by decide, by decide⟩ 10 rfl (Nat.le_of_ble_eq_true rfl) ?_
      intro T12 h12 X12 e12 W12 V12
      have N12 := Fr.snoc X12 N11 ge1
      have Z12 : n0 ≤ h12.size := by rw [W12.size]; exact Z11
      have O12 := O11.wr W12 ge1
      have Vq12 : Arv Z h12 b1 k1 .byte (12 : Int32) [(.int (nar .byte ((((q2).toInt32)).toInt8.toInt32))), (.int (nar .byte (((((((q2).toUInt64 >>> ((8 : Int32) &&& 0x3f).toInt64.toUInt64).toInt64)).toInt32)).toInt8.toInt32))), (.int (nar .byte (((((((q2).toUInt64 >>> ((16 : Int32) &&& 0x3f).toInt64.toUInt64).toInt64)).toInt32)).toInt8.toInt32))), (.int (nar .byte (((((((q2).toUInt64 >>> ((24 : Int32) &&& 0x3f).toInt64.toUInt64).toInt64)).toInt32)).toInt8.toInt32))), (.int (nar .byte (((((((q2).toUInt64 >>> ((32 : Int32) &&& 0x3f).toInt64.toUInt64).toInt64)).toInt32)).toInt8.toInt32))), (.int (nar .byte (((((((q2).toUInt64 >>> ((40 : Int32) &&& 0x3f).toInt64.toUInt64).toInt64)).toInt32)).toInt8.toInt32))), (.int (nar .byte (((((((q2).toUInt64 >>> ((48 : Int32) &&& 0x3f).toInt64.toUInt64).toInt64)).toInt32)).toInt8.toInt32))), (.int (nar .byte (((((((q2).toUInt64 >>> ((56 : Int32) &&& 0x3f).toInt64.toUInt64).toInt64)).toInt32)).toInt8.toInt32))), (.int (nar .byte (((((((q2).toUInt64 >>> ((4 : Int32) &&& 0x3f).toInt64.toUInt64).toInt64)).toInt32)).toInt8.toInt32))), (.int (nar .byte (((((((q2).toUInt64 >>> ((12 : Int32) &&& 0x3f).toInt64.toUInt64).toInt64)).toInt32)).toInt8.toInt32))), (.int (nar .byte (((((((q2).toUInt64 >>> ((20 : Int32) &&& 0x3f).toInt64.toUInt64).toInt64)).toInt32)).toInt8.toInt32))), (.int (0 : Int32))] (.int (0 : Int32)) := V12
      show Own.Fin p e below (T12.setTop (mkF m 198 #[.val (.int p1), .val (.long q2), .second, .val (.int p3), .val (.int p4), .val (.int cc), .val (.int md), .val (.int at_), .val (.int ln), .val (.int ixx), .val (.int pt), .val (.int po), .val (.ref b1), .unset, .unset, .unset] [])) _
      refine Own.go (fun t k => XS.aload X12.here hx rfl (hb hby at_198) rfl rfl k) ?_
      show Own.Fin p e below (T12.setTop (mkF m 200 #[.val (.int p1), .val (.long q2), .second, .val (.int p3), .val (.int p4), .val (.int cc), .val (.int md), .val (.int at_), .val (.int ln), .val (.int ixx), .val (.int pt), .val (.int po), .val (.ref b1), .unset, .unset, .unset] [(.ref b1)])) _
      refine Own.go (fun t k => XS.bipush X12.here hx rfl (hb hby at_200) k) ?_
      show Own.Fin p e below (T12.setTop (mkF m 202 #[.val (.int p1), .val (.long q2), .second, .val (.int p3), .val (.int p4), .val (.int cc), .val (.int md), .val (.int at_), .val (.int ln), .val (.int ixx), .val (.int pt), .val (.int po), .val (.ref b1), .unset, .unset, .unset] [(.int (11 : Int32)), (.ref b1)])) _
      refine Own.go (fun t k => XS.lloadN X12.here hx rfl (hb hby at_202) rfl k) ?_
      show Own.Fin p e below (T12.setTop (mkF m 203 #[.val (.int p1), .val (.long q2), .second, .val (.int p3), .val (.int p4), .val (.int cc), .val (.int md), .val (.int at_), .val (.int ln), .val (.int ixx), .val (.int pt), .val (.int po), .val (.ref b1), .unset, .unset, .unset] [(.long q2), (.int (11 : Int32)), (.ref b1)])) _
      refine Own.go (fun t k => XS.bipush X12.here hx rfl (hb hby at_203) k) ?_
      show Own.Fin p e below (T12.setTop (mkF m 205 #[.val (.int p1), .val (.long q2), .second, .val (.int p3), .val (.int p4), .val (.int cc), .val (.int md), .val (.int at_), .val (.int ln), .val (.int ixx), .val (.int pt), .val (.int po), .val (.ref b1), .unset, .unset, .unset] [(.int (28 : Int32)), (.long q2), (.int (11 : Int32)), (.ref b1)])) _
      refine Own.go (fun t k => XS.lushr X12.here hx rfl (hb hby at_205) rfl k) ?_
      show Own.Fin p e below (T12.setTop (mkF m 206 #[.val (.int p1), .val (.long q2), .second, .val (.int p3), .val (.int p4), .val (.int cc), .val (.int md), .val (.int at_), .val (.int ln), .val (.int ixx), .val (.int pt), .val (.int po), .val (.ref b1), .unset, .unset, .unset] [(.long (((q2).toUInt64 >>> ((28 : Int32) &&& 0x3f).toInt64.toUInt64).toInt64)), (.int (11 : Int32)), (.ref b1)])) _
      refine Own.go (fun t k => XS.l2i X12.here hx rfl (hb hby at_206) rfl k) ?_
      show Own.Fin p e below (T12.setTop (mkF m 207 #[.val (.int p1), .val (.long q2), .second, .val (.int p3), .val (.int p4), .val (.int cc), .val (.int md), .val (.int at_), .val (.int ln), .val (.int ixx), .val (.int pt), .val (.int po), .val (.ref b1), .unset, .unset, .unset] [(.int (((((q2).toUInt64 >>> ((28 : Int32) &&& 0x3f).toInt64.toUInt64).toInt64)).toInt32)), (.int (11 : Int32)), (.ref b1)])) _
      refine Own.go (fun t k => XS.i2b X12.here hx rfl (hb hby at_207) rfl k) ?_
      show Own.Fin p e below (T12.setTop (mkF m 208 #[.val (.int p1), .val (.long q2), .second, .val (.int p3), .val (.int p4), .val (.int cc), .val (.int md), .val (.int at_), .val (.int ln), .val (.int ixx), .val (.int pt), .val (.int po), .val (.ref b1), .unset, .unset, .unset] [(.int (((((((q2).toUInt64 >>> ((28 : Int32) &&& 0x3f).toInt64.toUInt64).toInt64)).toInt32)).toInt8.toInt32)), (.int (11 : Int32)), (.ref b1)])) _
      refine Own.stB X12 hx hZ e12 Vq12 (hb hby at_208) ⟨by decide, by decide⟩ 11 rfl (Nat.le_of_ble_eq_true rfl) ?_
      intro T13 h13 X13 e13 W13 V13
      have N13 := Fr.snoc X13 N12 ge1
      have Z13 : n0 ≤ h13.size := by rw [W13.size]; exact Z12
      have O13 := O12.wr W13 ge1
      have Vq13 : Arv Z h13 b1 k1 .byte (12 : Int32) [(.int (nar .byte ((((q2).toInt32)).toInt8.toInt32))), (.int (nar .byte (((((((q2).toUInt64 >>> ((8 : Int32) &&& 0x3f).toInt64.toUInt64).toInt64)).toInt32)).toInt8.toInt32))), (.int (nar .byte (((((((q2).toUInt64 >>> ((16 : Int32) &&& 0x3f).toInt64.toUInt64).toInt64)).toInt32)).toInt8.toInt32))), (.int (nar .byte (((((((q2).toUInt64 >>> ((24 : Int32) &&& 0x3f).toInt64.toUInt64).toInt64)).toInt32)).toInt8.toInt32))), (.int (nar .byte (((((((q2).toUInt64 >>> ((32 : Int32) &&& 0x3f).toInt64.toUInt64).toInt64)).toInt32)).toInt8.toInt32))), (.int (nar .byte (((((((q2).toUInt64 >>> ((40 : Int32) &&& 0x3f).toInt64.toUInt64).toInt64)).toInt32)).toInt8.toInt32))), (.int (nar .byte (((((((q2).toUInt64 >>> ((48 : Int32) &&& 0x3f).toInt64.toUInt64).toInt64)).toInt32)).toInt8.toInt32))), (.int (nar .byte (((((((q2).toUInt64 >>> ((56 : Int32) &&& 0x3f).toInt64.toUInt64).toInt64)).toInt32)).toInt8.toInt32))), (.int (nar .byte (((((((q2).toUInt64 >>> ((4 : Int32) &&& 0x3f).toInt64.toUInt64).toInt64)).toInt32)).toInt8.toInt32))), (.int (nar .byte (((((((q2).toUInt64 >>> ((12 : Int32) &&& 0x3f).toInt64.toUInt64).toInt64)).toInt32)).toInt8.toInt32))), (.int (nar .byte (((((((q2).toUInt64 >>> ((20 : Int32) &&& 0x3f).toInt64.toUInt64).toInt64)).toInt32)).toInt8.toInt32))), (.int (nar .byte (((((((q2).toUInt64 >>> ((28 : Int32) &&& 0x3f).toInt64.toUInt64).toInt64)).toInt32)).toInt8.toInt32)))] (.int (0 : Int32)) := V13
      show Own.Fin p e below (T13.setTop (mkF m 209 #[.val (.int p1), .val (.long q2), .second, .val (.int p3), .val (.int p4), .val (.int cc), .val (.int md), .val (.int at_), .val (.int ln), .val (.int ixx), .val (.int pt), .val (.int po), .val (.ref b1), .unset, .unset, .unset] [])) _
      refine Own.go (fun t k => XS.aload X13.here hx rfl (hb hby at_209) rfl rfl k) ?_
      show Own.Fin p e below (T13.setTop (mkF m 211 #[.val (.int p1), .val (.long q2), .second, .val (.int p3), .val (.int p4), .val (.int cc), .val (.int md), .val (.int at_), .val (.int ln), .val (.int ixx), .val (.int pt), .val (.int po), .val (.ref b1), .unset, .unset, .unset] [(.ref b1)])) _
      refine Own.go (fun t k => XS.iload X13.here hx rfl (hb hby at_211) rfl k) ?_
      show Own.Fin p e below (T13.setTop (mkF m 213 #[.val (.int p1), .val (.long q2), .second, .val (.int p3), .val (.int p4), .val (.int cc), .val (.int md), .val (.int at_), .val (.int ln), .val (.int ixx), .val (.int pt), .val (.int po), .val (.ref b1), .unset, .unset, .unset] [(.int at_), (.ref b1)])) _
      refine Own.go (fun t k => XS.bipush X13.here hx rfl (hb hby at_213) k) ?_
      show Own.Fin p e below (T13.setTop (mkF m 215 #[.val (.int p1), .val (.long q2), .second, .val (.int p3), .val (.int p4), .val (.int cc), .val (.int md), .val (.int at_), .val (.int ln), .val (.int ixx), .val (.int pt), .val (.int po), .val (.ref b1), .unset, .unset, .unset] [(.int (92 : Int32)), (.int at_), (.ref b1)])) _
      refine Own.stB X13 hx hZ e13 Vq13 (hb hby at_215) (own_at0 _ hat) _ rfl (Nat.lt_of_lt_of_eq (Own.clamp_lt (n := 12) (own_at0 _ hat) (by decide)) (rfl : ([(.int (nar .byte ((((q2).toInt32)).toInt8.toInt32))), (.int (nar .byte (((((((q2).toUInt64 >>> ((8 : Int32) &&& 0x3f).toInt64.toUInt64).toInt64)).toInt32)).toInt8.toInt32))), (.int (nar .byte (((((((q2).toUInt64 >>> ((16 : Int32) &&& 0x3f).toInt64.toUInt64).toInt64)).toInt32)).toInt8.toInt32))), (.int (nar .byte (((((((q2).toUInt64 >>> ((24 : Int32) &&& 0x3f).toInt64.toUInt64).toInt64)).toInt32)).toInt8.toInt32))), (.int (nar .byte (((((((q2).toUInt64 >>> ((32 : Int32) &&& 0x3f).toInt64.toUInt64).toInt64)).toInt32)).toInt8.toInt32))), (.int (nar .byte (((((((q2).toUInt64 >>> ((40 : Int32) &&& 0x3f).toInt64.toUInt64).toInt64)).toInt32)).toInt8.toInt32))), (.int (nar .byte (((((((q2).toUInt64 >>> ((48 : Int32) &&& 0x3f).toInt64.toUInt64).toInt64)).toInt32)).toInt8.toInt32))), (.int (nar .byte (((((((q2).toUInt64 >>> ((56 : Int32) &&& 0x3f).toInt64.toUInt64).toInt64)).toInt32)).toInt8.toInt32))), (.int (nar .byte (((((((q2).toUInt64 >>> ((4 : Int32) &&& 0x3f).toInt64.toUInt64).toInt64)).toInt32)).toInt8.toInt32))), (.int (nar .byte (((((((q2).toUInt64 >>> ((12 : Int32) &&& 0x3f).toInt64.toUInt64).toInt64)).toInt32)).toInt8.toInt32))), (.int (nar .byte (((((((q2).toUInt64 >>> ((20 : Int32) &&& 0x3f).toInt64.toUInt64).toInt64)).toInt32)).toInt8.toInt32))), (.int (nar .byte (((((((q2).toUInt64 >>> ((28 : Int32) &&& 0x3f).toInt64.toUInt64).toInt64)).toInt32)).toInt8.toInt32)))] : List Value).length = 12).symm) ?_
      intro T14 h14 X14 e14 W14 V14
      have N14 := Fr.snoc X14 N13 ge1
      have Z14 : n0 ≤ h14.size := by rw [W14.size]; exact Z13
      have O14 := O13.wr W14 ge1
      have hl14 := (List.length_set (as := ([(.int (nar .byte ((((q2).toInt32)).toInt8.toInt32))), (.int (nar .byte (((((((q2).toUInt64 >>> ((8 : Int32) &&& 0x3f).toInt64.toUInt64).toInt64)).toInt32)).toInt8.toInt32))), (.int (nar .byte (((((((q2).toUInt64 >>> ((16 : Int32) &&& 0x3f).toInt64.toUInt64).toInt64)).toInt32)).toInt8.toInt32))), (.int (nar .byte (((((((q2).toUInt64 >>> ((24 : Int32) &&& 0x3f).toInt64.toUInt64).toInt64)).toInt32)).toInt8.toInt32))), (.int (nar .byte (((((((q2).toUInt64 >>> ((32 : Int32) &&& 0x3f).toInt64.toUInt64).toInt64)).toInt32)).toInt8.toInt32))), (.int (nar .byte (((((((q2).toUInt64 >>> ((40 : Int32) &&& 0x3f).toInt64.toUInt64).toInt64)).toInt32)).toInt8.toInt32))), (.int (nar .byte (((((((q2).toUInt64 >>> ((48 : Int32) &&& 0x3f).toInt64.toUInt64).toInt64)).toInt32)).toInt8.toInt32))), (.int (nar .byte (((((((q2).toUInt64 >>> ((56 : Int32) &&& 0x3f).toInt64.toUInt64).toInt64)).toInt32)).toInt8.toInt32))), (.int (nar .byte (((((((q2).toUInt64 >>> ((4 : Int32) &&& 0x3f).toInt64.toUInt64).toInt64)).toInt32)).toInt8.toInt32))), (.int (nar .byte (((((((q2).toUInt64 >>> ((12 : Int32) &&& 0x3f).toInt64.toUInt64).toInt64)).toInt32)).toInt8.toInt32))), (.int (nar .byte (((((((q2).toUInt64 >>> ((20 : Int32) &&& 0x3f).toInt64.toUInt64).toInt64)).toInt32)).toInt8.toInt32))), (.int (nar .byte (((((((q2).toUInt64 >>> ((28 : Int32) &&& 0x3f).toInt64.toUInt64).toInt64)).toInt32)).toInt8.toInt32)))] : List Value)) (i := (at_).toNatClampNeg) (a := (.int (nar .byte (92 : Int32))))).trans (rfl : ([(.int (nar .byte ((((q2).toInt32)).toInt8.toInt32))), (.int (nar .byte (((((((q2).toUInt64 >>> ((8 : Int32) &&& 0x3f).toInt64.toUInt64).toInt64)).toInt32)).toInt8.toInt32))), (.int (nar .byte (((((((q2).toUInt64 >>> ((16 : Int32) &&& 0x3f).toInt64.toUInt64).toInt64)).toInt32)).toInt8.toInt32))), (.int (nar .byte (((((((q2).toUInt64 >>> ((24 : Int32) &&& 0x3f).toInt64.toUInt64).toInt64)).toInt32)).toInt8.toInt32))), (.int (nar .byte (((((((q2).toUInt64 >>> ((32 : Int32) &&& 0x3f).toInt64.toUInt64).toInt64)).toInt32)).toInt8.toInt32))), (.int (nar .byte (((((((q2).toUInt64 >>> ((40 : Int32) &&& 0x3f).toInt64.toUInt64).toInt64)).toInt32)).toInt8.toInt32))), (.int (nar .byte (((((((q2).toUInt64 >>> ((48 : Int32) &&& 0x3f).toInt64.toUInt64).toInt64)).toInt32)).toInt8.toInt32))), (.int (nar .byte (((((((q2).toUInt64 >>> ((56 : Int32) &&& 0x3f).toInt64.toUInt64).toInt64)).toInt32)).toInt8.toInt32))), (.int (nar .byte (((((((q2).toUInt64 >>> ((4 : Int32) &&& 0x3f).toInt64.toUInt64).toInt64)).toInt32)).toInt8.toInt32))), (.int (nar .byte (((((((q2).toUInt64 >>> ((12 : Int32) &&& 0x3f).toInt64.toUInt64).toInt64)).toInt32)).toInt8.toInt32))), (.int (nar .byte (((((((q2).toUInt64 >>> ((20 : Int32) &&& 0x3f).toInt64.toUInt64).toInt64)).toInt32)).toInt8.toInt32))), (.int (nar .byte (((((((q2).toUInt64 >>> ((28 : Int32) &&& 0x3f).toInt64.toUInt64).toInt64)).toInt32)).toInt8.toInt32)))] : List Value).length = 12)
      generalize hvs14 : List.set _ _ _ = vs14 at V14 hl14
      show Own.Fin p e below (T14.setTop (mkF m 216 #[.val (.int p1), .val (.long q2), .second, .val (.int p3), .val (.int p4), .val (.int cc), .val (.int md), .val (.int at_), .val (.int ln), .val (.int ixx), .val (.int pt), .val (.int po), .val (.ref b1), .unset, .unset, .unset] [])) _
      have j354 : ∀ (Tj : State) (hj : Heap) (Lj : List Loc) (vj0 : List Value) (Xj : Stand p l e room_1 s m #[(.int p1), (.long q2), (.int p3), (.int p4)] below meth c Tj Lj 1 12) (ej : Tj.heap = hj) (Nj : Fr n0 Lj) (Zj : n0 ≤ hj.size) (Oj : Old Z n0 hj) (Vj0 : Arv Z hj b1 k1 .byte (12 : Int32) vj0 (.int (0 : Int32))) (hlj0 : vj0.length = 12) , Own.Fin p e below (Tj.setTop (mkF m 354 #[.val (.int p1), .val (.long q2), .second, .val (.int p3), .val (.int p4), .val (.int cc), .val (.int md), .val (.int at_), .val (.int ln), .val (.int ixx), .val (.int pt), .val (.int po), .val (.ref b1), .unset, .unset, .unset] [])) (Own.Post s (Q0 Z p1 q2 p3 p4 ae ah clE clH h0 n0) room_1.cells room_1.slots) := by
        intro Tj hj Lj vj0 Xj ej Nj Zj Oj Vj0 hlj0 
        have j367 : ∀ (Tj : State) (hj : Heap) (Lj : List Loc) (vj0 : List Value) (Xj : Stand p l e room_1 s m #[(.int p1), (.long q2), (.int p3), (.int p4)] below meth c Tj Lj 1 12) (ej : Tj.heap = hj) (Nj : Fr n0 Lj) (Zj : n0 ≤ hj.size) (Oj : Old Z n0 hj) (Vj0 : Arv Z hj b1 k1 .byte (12 : Int32) vj0 (.int (0 : Int32))) (hlj0 : vj0.length = 12) , Own.Fin p e below (Tj.setTop (mkF m 367 #[.val (.int p1), .val (.long q2), .second, .val (.int p3), .val (.int p4), .val (.int cc), .val (.int md), .val (.int at_), .val (.int ln), .val (.int ixx), .val (.int pt), .val (.int po), .val (.ref b1), .unset, .unset, .unset] [])) (Own.Post s (Q0 Z p1 q2 p3 p4 ae ah clE clH h0 n0) room_1.cells room_1.slots) := by
          intro Tj hj Lj vj0 Xj ej Nj Zj Oj Vj0 hlj0 
          show Own.Fin p e below (Tj.setTop (mkF m 367 #[.val (.int p1), .val (.long q2), .second, .val (.int p3), .val (.int p4), .val (.int cc), .val (.int md), .val (.int at_), .val (.int ln), .val (.int ixx), .val (.int pt), .val (.int po), .val (.ref b1), .unset, .unset, .unset] [])) _
          refine Own.go (fun t k => XS.iload Xj.here hx rfl (hb hby at_367) rfl k) ?_
          show Own.Fin p e below (Tj.setTop (mkF m 369 #[.val (.int p1), .val (.long q2), .second, .val (.int p3), .val (.int p4), .val (.int cc), .val (.int md), .val (.int at_), .val (.int ln), .val (.int ixx), .val (.int pt), .val (.int po), .val (.ref b1), .unset, .unset, .unset] [(.int cc)])) _
          refine Own.go (fun t k => XS.i2c Xj.here hx rfl (hb hby at_369) rfl k) ?_
          show Own.Fin p e below (Tj.setTop (mkF m 370 #[.val (.int p1), .val (.long q2), .second, .val (.int p3), .val (.int p4), .val (.int cc), .val (.int md), .val (.int at_), .val (.int ln), .val (.int ixx), .val (.int pt), .val (.int po), .val (.ref b1), .unset, .unset, .unset] [(.int ((cc).toUInt32.toUInt16.toUInt32.toInt32))])) _
          refine Own.go (fun t k => XS.aload Xj.here hx rfl (hb hby at_370) rfl rfl k) ?_
          show Own.Fin p e below (Tj.setTop (mkF m 372 #[.val (.int p1), .val (.long q2), .second, .val (.int p3), .val (.int p4), .val (.int cc), .val (.int md), .val (.int at_), .val (.int ln), .val (.int ixx), .val (.int pt), .val (.int po), .val (.ref b1), .unset, .unset, .unset] [(.ref b1), (.int ((cc).toUInt32.toUInt16.toUInt32.toInt32))])) _
          refine Own.go (fun t k => XS.iload Xj.here hx rfl (hb hby at_372) rfl k) ?_
          show Own.Fin p e below (Tj.setTop (mkF m 374 #[.val (.int p1), .val (.long q2), .second, .val (.int p3), .val (.int p4), .val (.int cc), .val (.int md), .val (.int at_), .val (.int ln), .val (.int ixx), .val (.int pt), .val (.int po), .val (.ref b1), .unset, .unset, .unset] [(.int at_), (.ref b1), (.int ((cc).toUInt32.toUInt16.toUInt32.toInt32))])) _
          refine Own.go (fun t k => XS.iload Xj.here hx rfl (hb hby at_374) rfl k) ?_
          show Own.Fin p e below (Tj.setTop (mkF m 376 #[.val (.int p1), .val (.long q2), .second, .val (.int p3), .val (.int p4), .val (.int cc), .val (.int md), .val (.int at_), .val (.int ln), .val (.int ixx), .val (.int pt), .val (.int po), .val (.ref b1), .unset, .unset, .unset] [(.int ln), (.int at_), (.ref b1), (.int ((cc).toUInt32.toUInt16.toUInt32.toInt32))])) _
          obtain ⟨_, -, -, -, hf1⟩ := Own.arv_at Vj0 (own_at at_ 1 1 (by decide) hat (by decide) (by decide))
          obtain ⟨y1, hy1⟩ := fit_I hf1 (Or.inr (Or.inr (Or.inl rfl)))
          obtain ⟨_, -, -, -, hf2⟩ := Own.arv_at Vj0 (own_at at_ 2 2 (by decide) hat (by decide) (by decide))
          obtain ⟨y2, hy2⟩ := fit_I hf2 (Or.inr (Or.inr (Or.inl rfl)))
          obtain ⟨_, -, -, -, hf3⟩ := Own.arv_at Vj0 (own_at at_ 3 3 (by decide) hat (by decide) (by decide))
          obtain ⟨y3, hy3⟩ := fit_I hf3 (Or.inr (Or.inr (Or.inl rfl)))
          obtain ⟨_, -, -, -, hf4⟩ := Own.arv_at Vj0 (own_at at_ 4 4 (by decide) hat (by decide) (by decide))
          obtain ⟨y4, hy4⟩ := fit_I hf4 (Or.inr (Or.inr (Or.inl rfl)))
          obtain ⟨_, -, -, -, hf5⟩ := Own.arv_at Vj0 (own_at at_ 5 5 (by decide) hat (by decide) (by decide))
          obtain ⟨y5, hy5⟩ := fit_I hf5 (Or.inr (Or.inr (Or.inl rfl)))
          rw [own_i2c cc hc]
          show Own.Fin p e below (Tj.setTop (mkF m 376 #[.val (.int p1), .val (.long q2), .second, .val (.int p3), .val (.int p4), .val (.int cc), .val (.int md), .val (.int at_), .val (.int ln), .val (.int ixx), .val (.int pt), .val (.int po), .val (.ref b1), .unset, .unset, .unset] [(.int ln), (.int at_), (.ref b1), (.int cc)])) _
          refine Own.cS Xj hx hZ hown (hw _ (List.mem_of_getElem? (i := 6) rfl)) (hw _ (List.mem_of_getElem? (i := 7) rfl)) (hw _ (List.mem_of_getElem? (i := 8) rfl)) (hw _ (List.mem_of_getElem? (i := 9) rfl)) (by decide) (rm2 l Z a0 hw [] cc b1 at_ ln ae ah clE clH k1 vj0 y1 y2 y3 y4 y5 hj n0 Zj Oj SE AE zE nE tE SH AH nH tH hc.1 hc0 Vj0 hy1 (own_at _ 1 1 (by decide) hat (by decide) (by decide)) hy2 (own_at _ 2 2 (by decide) hat (by decide) (by decide)) hy3 (own_at _ 3 3 (by decide) hat (by decide) (by decide)) hy4 (own_at _ 4 4 (by decide) hat (by decide) (by decide)) hy5 (own_at _ 5 5 (by decide) hat (by decide) (by decide))) (by decide) (W := 0) (by decide) (argsL := [(.int cc), (.ref b1), (.int at_), (.int ln)]) (rest := []) (by rw [hml]; rfl) (lenOf pd_0 rfl) rfl (Nat.le_of_eq rfl) (hb hby at_376) ej (by decide) (by decide) ?_
          intro T15 L15 v15 X15 hQ15
          obtain ⟨rfl, N15q, e15⟩ := hQ15
          have N15 := Fr.app Nj N15q
          show Own.Fin p e below (T15.setTop (mkF m 379 #[.val (.int p1), .val (.long q2), .second, .val (.int p3), .val (.int p4), .val (.int cc), .val (.int md), .val (.int at_), .val (.int ln), .val (.int ixx), .val (.int pt), .val (.int po), .val (.ref b1), .unset, .unset, .unset] [(.int (F_esc cc ln y1 y2 y3 y4 y5))])) _
          refine Own.go (fun t k => XS.istore X15.here hx rfl (hb hby at_379) rfl (l' := #[.val (.int p1), .val (.long q2), .second, .val (.int p3), .val (.int p4), .val (.int cc), .val (.int md), .val (.int at_), .val (.int ln), .val (.int ixx), .val (.int pt), .val (.int po), .val (.ref b1), .val (.int (F_esc cc ln y1 y2 y3 y4 y5)), .unset, .unset]) rfl k) ?_
          show Own.Fin p e below (T15.setTop (mkF m 381 #[.val (.int p1), .val (.long q2), .second, .val (.int p3), .val (.int p4), .val (.int cc), .val (.int md), .val (.int at_), .val (.int ln), .val (.int ixx), .val (.int pt), .val (.int po), .val (.ref b1), .val (.int (F_esc cc ln y1 y2 y3 y4 y5)), .unset, .unset] [])) _
          refine Own.go (fun t k => XS.iload X15.here hx rfl (hb hby at_381) rfl k) ?_
          show Own.Fin p e below (T15.setTop (mkF m 383 #[.val (.int p1), .val (.long q2), .second, .val (.int p3), .val (.int p4), .val (.int cc), .val (.int md), .val (.int at_), .val (.int ln), .val (.int ixx), .val (.int pt), .val (.int po), .val (.ref b1), .val (.int (F_esc cc ln y1 y2 y3 y4 y5)), .unset, .unset] [(.int cc)])) _
          refine Own.cS X15 hx hZ hown (hw _ (List.mem_of_getElem? (i := 12) rfl)) (hw _ (List.mem_of_getElem? (i := 13) rfl)) (hw _ (List.mem_of_getElem? (i := 4) rfl)) (hw _ (List.mem_of_getElem? (i := 14) rfl)) (by decide) (rm3 l Z a0 hw [] cc hj n0 Zj ) (by decide) (W := 0) (by decide) (argsL := [(.int cc)]) (rest := []) (by rw [hml]; rfl) (lenOf pd_1 rfl) rfl (Nat.le_of_eq rfl) (hb hby at_383) e15 (by decide) (by decide) ?_
          intro T16 L16 v16 X16 hQ16
          obtain ⟨rfl, N16q, e16⟩ := hQ16
          have N16 := Fr.app N15 N16q
          show Own.Fin p e below (T16.setTop (mkF m 386 #[.val (.int p1), .val (.long q2), .second, .val (.int p3), .val (.int p4), .val (.int cc), .val (.int md), .val (.int at_), .val (.int ln), .val (.int ixx), .val (.int pt), .val (.int po), .val (.ref b1), .val (.int (F_esc cc ln y1 y2 y3 y4 y5)), .unset, .unset] [(.int (F_sl cc))])) _
          refine Own.go (fun t k => XS.istore X16.here hx rfl (hb hby at_386) rfl (l' := #[.val (.int p1), .val (.long q2), .second, .val (.int p3), .val (.int p4), .val (.int cc), .val (.int md), .val (.int at_), .val (.int ln), .val (.int ixx), .val (.int pt), .val (.int po), .val (.ref b1), .val (.int (F_esc cc ln y1 y2 y3 y4 y5)), .val (.int (F_sl cc)), .unset]) rfl k) ?_
          show Own.Fin p e below (T16.setTop (mkF m 388 #[.val (.int p1), .val (.long q2), .second, .val (.int p3), .val (.int p4), .val (.int cc), .val (.int md), .val (.int at_), .val (.int ln), .val (.int ixx), .val (.int pt), .val (.int po), .val (.ref b1), .val (.int (F_esc cc ln y1 y2 y3 y4 y5)), .val (.int (F_sl cc)), .unset] [])) _
          refine Own.go (fun t k => XS.iload X16.here hx rfl (hb hby at_388) rfl k) ?_
          show Own.Fin p e below (T16.setTop (mkF m 390 #[.val (.int p1), .val (.long q2), .second, .val (.int p3), .val (.int p4), .val (.int cc), .val (.int md), .val (.int at_), .val (.int ln), .val (.int ixx), .val (.int pt), .val (.int po), .val (.ref b1), .val (.int (F_esc cc ln y1 y2 y3 y4 y5)), .val (.int (F_sl cc)), .unset] [(.int (F_sl cc))])) _
          by_cases hc390_16 : (F_sl cc) = (0 : Int32)
          · skip
            refine Own.go (fun t k => XS.ifYes X16.here hx rfl (pc0 := 390) (pc' := 422) rfl (hb hby at_390) rfl ((if0 _ _).trans (teq hc390_16).1) (by decide) (by decide) k) ?_
            show Own.Fin p e below (T16.setTop (mkF m 422 #[.val (.int p1), .val (.long q2), .second, .val (.int p3), .val (.int p4), .val (.int cc), .val (.int md), .val (.int at_), .val (.int ln), .val (.int ixx), .val (.int pt), .val (.int po), .val (.ref b1), .val (.int (F_esc cc ln y1 y2 y3 y4 y5)), .val (.int (F_sl cc)), .unset] [])) _
            refine Own.go (fun t k => XS.iload X16.here hx rfl (hb hby at_422) rfl k) ?_
            show Own.Fin p e below (T16.setTop (mkF m 424 #[.val (.int p1), .val (.long q2), .second, .val (.int p3), .val (.int p4), .val (.int cc), .val (.int md), .val (.int at_), .val (.int ln), .val (.int ixx), .val (.int pt), .val (.int po), .val (.ref b1), .val (.int (F_esc cc ln y1 y2 y3 y4 y5)), .val (.int (F_sl cc)), .unset] [(.int cc)])) _
            refine Own.go (fun t k => XS.bipush X16.here hx rfl (hb hby at_424) k) ?_
            show Own.Fin p e below (T16.setTop (mkF m 426 #[.val (.int p1), .val (.long q2), .second, .val (.int p3), .val (.int p4), .val (.int cc), .val (.int md), .val (.int at_), .val (.int ln), .val (.int ixx), .val (.int pt), .val (.int po), .val (.ref b1), .val (.int (F_esc cc ln y1 y2 y3 y4 y5)), .val (.int (F_sl cc)), .unset] [(.int (32 : Int32)), (.int cc)])) _
            by_cases hc426_17 : cc < (32 : Int32)
            · skip
              refine Own.go (fun t k => XS.icmpNo X16.here hx rfl (hb hby at_426) rfl (tlt hc426_17).2.1 k) ?_
              show Own.Fin p e below (T16.setTop (mkF m 429 #[.val (.int p1), .val (.long q2), .second, .val (.int p3), .val (.int p4), .val (.int cc), .val (.int md), .val (.int at_), .val (.int ln), .val (.int ixx), .val (.int pt), .val (.int po), .val (.ref b1), .val (.int (F_esc cc ln y1 y2 y3 y4 y5)), .val (.int (F_sl cc)), .unset] [])) _
              refine Own.go (fun t k => XS.iload X16.here hx rfl (hb hby at_429) rfl k) ?_
              show Own.Fin p e below (T16.setTop (mkF m 431 #[.val (.int p1), .val (.long q2), .second, .val (.int p3), .val (.int p4), .val (.int cc), .val (.int md), .val (.int at_), .val (.int ln), .val (.int ixx), .val (.int pt), .val (.int po), .val (.ref b1), .val (.int (F_esc cc ln y1 y2 y3 y4 y5)), .val (.int (F_sl cc)), .unset] [(.int ln)])) _
              refine Own.go (fun t k => XS.bipush X16.here hx rfl (hb hby at_431) k) ?_
              show Own.Fin p e below (T16.setTop (mkF m 433 #[.val (.int p1), .val (.long q2), .second, .val (.int p3), .val (.int p4), .val (.int cc), .val (.int md), .val (.int at_), .val (.int ln), .val (.int ixx), .val (.int pt), .val (.int po), .val (.ref b1), .val (.int (F_esc cc ln y1 y2 y3 y4 y5)), .val (.int (F_sl cc)), .unset] [(.int (6 : Int32)), (.int ln)])) _
              by_cases hc433_18 : ln = (6 : Int32)
              · skip
                refine Own.go (fun t k => XS.icmpNo X16.here hx rfl (hb hby at_433) rfl (teq hc433_18).2 k) ?_
                show Own.Fin p e below (T16.setTop (mkF m 436 #[.val (.int p1), .val (.long q2), .second, .val (.int p3), .val (.int p4), .val (.int cc), .val (.int md), .val (.int at_), .val (.int ln), .val (.int ixx), .val (.int pt), .val (.int po), .val (.ref b1), .val (.int (F_esc cc ln y1 y2 y3 y4 y5)), .val (.int (F_sl cc)), .unset] [])) _
                refine Own.go (fun t k => XS.aload X16.here hx rfl (hb hby at_436) rfl rfl k) ?_
                show Own.Fin p e below (T16.setTop (mkF m 438 #[.val (.int p1), .val (.long q2), .second, .val (.int p3), .val (.int p4), .val (.int cc), .val (.int md), .val (.int at_), .val (.int ln), .val (.int ixx), .val (.int pt), .val (.int po), .val (.ref b1), .val (.int (F_esc cc ln y1 y2 y3 y4 y5)), .val (.int (F_sl cc)), .unset] [(.ref b1)])) _
                refine Own.go (fun t k => XS.iload X16.here hx rfl (hb hby at_438) rfl k) ?_
                show Own.Fin p e below (T16.setTop (mkF m 440 #[.val (.int p1), .val (.long q2), .second, .val (.int p3), .val (.int p4), .val (.int cc), .val (.int md), .val (.int at_), .val (.int ln), .val (.int ixx), .val (.int pt), .val (.int po), .val (.ref b1), .val (.int (F_esc cc ln y1 y2 y3 y4 y5)), .val (.int (F_sl cc)), .unset] [(.int at_), (.ref b1)])) _
                refine Own.go (fun t k => XS.iconst X16.here hx rfl (hb hby at_440) k) ?_
                show Own.Fin p e below (T16.setTop (mkF m 441 #[.val (.int p1), .val (.long q2), .second, .val (.int p3), .val (.int p4), .val (.int cc), .val (.int md), .val (.int at_), .val (.int ln), .val (.int ixx), .val (.int pt), .val (.int po), .val (.ref b1), .val (.int (F_esc cc ln y1 y2 y3 y4 y5)), .val (.int (F_sl cc)), .unset] [(.int (1 : Int32)), (.int at_), (.ref b1)])) _
                refine Own.go (fun t k => XS.iadd X16.here hx rfl (hb hby at_441) rfl k) ?_
                show Own.Fin p e below (T16.setTop (mkF m 442 #[.val (.int p1), .val (.long q2), .second, .val (.int p3), .val (.int p4), .val (.int cc), .val (.int md), .val (.int at_), .val (.int ln), .val (.int ixx), .val (.int pt), .val (.int po), .val (.ref b1), .val (.int (F_esc cc ln y1 y2 y3 y4 y5)), .val (.int (F_sl cc)), .unset] [(.int (at_ + (1 : Int32))), (.ref b1)])) _
                refine Own.ldB X16 hx hZ e16 Vj0 (hb hby at_442) (own_at _ 1 1 (by decide) hat (by decide) (by decide)) ?_
                intro u20 hu20
                obtain rfl : y1 = u20 := Value.int.inj (hy1.symm.trans hu20)
                show Own.Fin p e below (T16.setTop (mkF m 443 #[.val (.int p1), .val (.long q2), .second, .val (.int p3), .val (.int p4), .val (.int cc), .val (.int md), .val (.int at_), .val (.int ln), .val (.int ixx), .val (.int pt), .val (.int po), .val (.ref b1), .val (.int (F_esc cc ln y1 y2 y3 y4 y5)), .val (.int (F_sl cc)), .unset] [(.int y1)])) _
                refine Own.go (fun t k => XS.bipush X16.here hx rfl (hb hby at_443) k) ?_
                show Own.Fin p e below (T16.setTop (mkF m 445 #[.val (.int p1), .val (.long q2), .second, .val (.int p3), .val (.int p4), .val (.int cc), .val (.int md), .val (.int at_), .val (.int ln), .val (.int ixx), .val (.int pt), .val (.int po), .val (.ref b1), .val (.int (F_esc cc ln y1 y2 y3 y4 y5)), .val (.int (F_sl cc)), .unset] [(.int (117 : Int32)), (.int y1)])) _
                by_cases hc445_20 : y1 = (117 : Int32)
                · skip
                  refine Own.go (fun t k => XS.icmpNo X16.here hx rfl (hb hby at_445) rfl (teq hc445_20).2 k) ?_
                  show Own.Fin p e below (T16.setTop (mkF m 448 #[.val (.int p1), .val (.long q2), .second, .val (.int p3), .val (.int p4), .val (.int cc), .val (.int md), .val (.int at_), .val (.int ln), .val (.int ixx), .val (.int pt), .val (.int po), .val (.ref b1), .val (.int (F_esc cc ln y1 y2 y3 y4 y5)), .val (.int (F_sl cc)), .unset] [])) _
                  refine Own.go (fun t k => XS.aload X16.here hx rfl (hb hby at_448) rfl rfl k) ?_
                  show Own.Fin p e below (T16.setTop (mkF m 450 #[.val (.int p1), .val (.long q2), .second, .val (.int p3), .val (.int p4), .val (.int cc), .val (.int md), .val (.int at_), .val (.int ln), .val (.int ixx), .val (.int pt), .val (.int po), .val (.ref b1), .val (.int (F_esc cc ln y1 y2 y3 y4 y5)), .val (.int (F_sl cc)), .unset] [(.ref b1)])) _
                  refine Own.go (fun t k => XS.iload X16.here hx rfl (hb hby at_450) rfl k) ?_
                  show Own.Fin p e below (T16.setTop (mkF m 452 #[.val (.int p1), .val (.long q2), .second, .val (.int p3), .val (.int p4), .val (.int cc), .val (.int md), .val (.int at_), .val (.int ln), .val (.int ixx), .val (.int pt), .val (.int po), .val (.ref b1), .val (.int (F_esc cc ln y1 y2 y3 y4 y5)), .val (.int (F_sl cc)), .unset] [(.int at_), (.ref b1)])) _
                  refine Own.go (fun t k => XS.iconst X16.here hx rfl (hb hby at_452) k) ?_
                  show Own.Fin p e below (T16.setTop (mkF m 453 #[.val (.int p1), .val (.long q2), .second, .val (.int p3), .val (.int p4), .val (.int cc), .val (.int md), .val (.int at_), .val (.int ln), .val (.int ixx), .val (.int pt), .val (.int po), .val (.ref b1), .val (.int (F_esc cc ln y1 y2 y3 y4 y5)), .val (.int (F_sl cc)), .unset] [(.int (2 : Int32)), (.int at_), (.ref b1)])) _
                  refine Own.go (fun t k => XS.iadd X16.here hx rfl (hb hby at_453) rfl k) ?_
                  show Own.Fin p e below (T16.setTop (mkF m 454 #[.val (.int p1), .val (.long q2), .second, .val (.int p3), .val (.int p4), .val (.int cc), .val (.int md), .val (.int at_), .val (.int ln), .val (.int ixx), .val (.int pt), .val (.int po), .val (.ref b1), .val (.int (F_esc cc ln y1 y2 y3 y4 y5)), .val (.int (F_sl cc)), .unset] [(.int (at_ + (2 : Int32))), (.ref b1)])) _
                  refine Own.ldB X16 hx hZ e16 Vj0 (hb hby at_454) (own_at _ 2 2 (by decide) hat (by decide) (by decide)) ?_
                  intro u22 hu22
                  obtain rfl : y2 = u22 := Value.int.inj (hy2.symm.trans hu22)
                  show Own.Fin p e below (T16.setTop (mkF m 455 #[.val (.int p1), .val (.long q2), .second, .val (.int p3), .val (.int p4), .val (.int cc), .val (.int md), .val (.int at_), .val (.int ln), .val (.int ixx), .val (.int pt), .val (.int po), .val (.ref b1), .val (.int (F_esc cc ln y1 y2 y3 y4 y5)), .val (.int (F_sl cc)), .unset] [(.int y2)])) _
                  refine Own.go (fun t k => XS.bipush X16.here hx rfl (hb hby at_455) k) ?_
                  show Own.Fin p e below (T16.setTop (mkF m 457 #[.val (.int p1), .val (.long q2), .second, .val (.int p3), .val (.int p4), .val (.int cc), .val (.int md), .val (.int at_), .val (.int ln), .val (.int ixx), .val (.int pt), .val (.int po), .val (.ref b1), .val (.int (F_esc cc ln y1 y2 y3 y4 y5)), .val (.int (F_sl cc)), .unset] [(.int (48 : Int32)), (.int y2)])) _
                  by_cases hc457_22 : y2 = (48 : Int32)
                  · skip
                    refine Own.go (fun t k => XS.icmpNo X16.here hx rfl (hb hby at_457) rfl (teq hc457_22).2 k) ?_
                    show Own.Fin p e below (T16.setTop (mkF m 460 #[.val (.int p1), .val (.long q2), .second, .val (.int p3), .val (.int p4), .val (.int cc), .val (.int md), .val (.int at_), .val (.int ln), .val (.int ixx), .val (.int pt), .val (.int po), .val (.ref b1), .val (.int (F_esc cc ln y1 y2 y3 y4 y5)), .val (.int (F_sl cc)), .unset] [])) _
                    refine Own.go (fun t k => XS.aload X16.here hx rfl (hb hby at_460) rfl rfl k) ?_
                    show Own.Fin p e below (T16.setTop (mkF m 462 #[.val (.int p1), .val (.long q2), .second, .val (.int p3), .val (.int p4), .val (.int cc), .val (.int md), .val (.int at_), .val (.int ln), .val (.int ixx), .val (.int pt), .val (.int po), .val (.ref b1), .val (.int (F_esc cc ln y1 y2 y3 y4 y5)), .val (.int (F_sl cc)), .unset] [(.ref b1)])) _
                    refine Own.go (fun t k => XS.iload X16.here hx rfl (hb hby at_462) rfl k) ?_
                    show Own.Fin p e below (T16.setTop (mkF m 464 #[.val (.int p1), .val (.long q2), .second, .val (.int p3), .val (.int p4), .val (.int cc), .val (.int md), .val (.int at_), .val (.int ln), .val (.int ixx), .val (.int pt), .val (.int po), .val (.ref b1), .val (.int (F_esc cc ln y1 y2 y3 y4 y5)), .val (.int (F_sl cc)), .unset] [(.int at_), (.ref b1)])) _
                    refine Own.go (fun t k => XS.iconst X16.here hx rfl (hb hby at_464) k) ?_
                    show Own.Fin p e below (T16.setTop (mkF m 465 #[.val (.int p1), .val (.long q2), .second, .val (.int p3), .val (.int p4), .val (.int cc), .val (.int md), .val (.int at_), .val (.int ln), .val (.int ixx), .val (.int pt), .val (.int po), .val (.ref b1), .val (.int (F_esc cc ln y1 y2 y3 y4 y5)), .val (.int (F_sl cc)), .unset] [(.int (3 : Int32)), (.int at_), (.ref b1)])) _
                    refine Own.go (fun t k => XS.iadd X16.here hx rfl (hb hby at_465) rfl k) ?_
                    show Own.Fin p e below (T16.setTop (mkF m 466 #[.val (.int p1), .val (.long q2), .second, .val (.int p3), .val (.int p4), .val (.int cc), .val (.int md), .val (.int at_), .val (.int ln), .val (.int ixx), .val (.int pt), .val (.int po), .val (.ref b1), .val (.int (F_esc cc ln y1 y2 y3 y4 y5)), .val (.int (F_sl cc)), .unset] [(.int (at_ + (3 : Int32))), (.ref b1)])) _
                    refine Own.ldB X16 hx hZ e16 Vj0 (hb hby at_466) (own_at _ 3 3 (by decide) hat (by decide) (by decide)) ?_
                    intro u24 hu24
                    obtain rfl : y3 = u24 := Value.int.inj (hy3.symm.trans hu24)
                    show Own.Fin p e below (T16.setTop (mkF m 467 #[.val (.int p1), .val (.long q2), .second, .val (.int p3), .val (.int p4), .val (.int cc), .val (.int md), .val (.int at_), .val (.int ln), .val (.int ixx), .val (.int pt), .val (.int po), .val (.ref b1), .val (.int (F_esc cc ln y1 y2 y3 y4 y5)), .val (.int (F_sl cc)), .unset] [(.int y3)])) _
                    refine Own.go (fun t k => XS.bipush X16.here hx rfl (hb hby at_467) k) ?_
                    show Own.Fin p e below (T16.setTop (mkF m 469 #[.val (.int p1), .val (.long q2), .second, .val (.int p3), .val (.int p4), .val (.int cc), .val (.int md), .val (.int at_), .val (.int ln), .val (.int ixx), .val (.int pt), .val (.int po), .val (.ref b1), .val (.int (F_esc cc ln y1 y2 y3 y4 y5)), .val (.int (F_sl cc)), .unset] [(.int (48 : Int32)), (.int y3)])) _
                    by_cases hc469_24 : y3 = (48 : Int32)
                    · skip
                      refine Own.go (fun t k => XS.icmpNo X16.here hx rfl (hb hby at_469) rfl (teq hc469_24).2 k) ?_
                      show Own.Fin p e below (T16.setTop (mkF m 472 #[.val (.int p1), .val (.long q2), .second, .val (.int p3), .val (.int p4), .val (.int cc), .val (.int md), .val (.int at_), .val (.int ln), .val (.int ixx), .val (.int pt), .val (.int po), .val (.ref b1), .val (.int (F_esc cc ln y1 y2 y3 y4 y5)), .val (.int (F_sl cc)), .unset] [])) _
                      refine Own.go (fun t k => XS.aload X16.here hx rfl (hb hby at_472) rfl rfl k) ?_
                      show Own.Fin p e below (T16.setTop (mkF m 474 #[.val (.int p1), .val (.long q2), .second, .val (.int p3), .val (.int p4), .val (.int cc), .val (.int md), .val (.int at_), .val (.int ln), .val (.int ixx), .val (.int pt), .val (.int po), .val (.ref b1), .val (.int (F_esc cc ln y1 y2 y3 y4 y5)), .val (.int (F_sl cc)), .unset] [(.ref b1)])) _
                      refine Own.go (fun t k => XS.iload X16.here hx rfl (hb hby at_474) rfl k) ?_
                      show Own.Fin p e below (T16.setTop (mkF m 476 #[.val (.int p1), .val (.long q2), .second, .val (.int p3), .val (.int p4), .val (.int cc), .val (.int md), .val (.int at_), .val (.int ln), .val (.int ixx), .val (.int pt), .val (.int po), .val (.ref b1), .val (.int (F_esc cc ln y1 y2 y3 y4 y5)), .val (.int (F_sl cc)), .unset] [(.int at_), (.ref b1)])) _
                      refine Own.go (fun t k => XS.iconst X16.here hx rfl (hb hby at_476) k) ?_
                      show Own.Fin p e below (T16.setTop (mkF m 477 #[.val (.int p1), .val (.long q2), .second, .val (.int p3), .val (.int p4), .val (.int cc), .val (.int md), .val (.int at_), .val (.int ln), .val (.int ixx), .val (.int pt), .val (.int po), .val (.ref b1), .val (.int (F_esc cc ln y1 y2 y3 y4 y5)), .val (.int (F_sl cc)), .unset] [(.int (4 : Int32)), (.int at_), (.ref b1)])) _
                      refine Own.go (fun t k => XS.iadd X16.here hx rfl (hb hby at_477) rfl k) ?_
                      show Own.Fin p e below (T16.setTop (mkF m 478 #[.val (.int p1), .val (.long q2), .second, .val (.int p3), .val (.int p4), .val (.int cc), .val (.int md), .val (.int at_), .val (.int ln), .val (.int ixx), .val (.int pt), .val (.int po), .val (.ref b1), .val (.int (F_esc cc ln y1 y2 y3 y4 y5)), .val (.int (F_sl cc)), .unset] [(.int (at_ + (4 : Int32))), (.ref b1)])) _
                      refine Own.ldB X16 hx hZ e16 Vj0 (hb hby at_478) (own_at _ 4 4 (by decide) hat (by decide) (by decide)) ?_
                      intro u26 hu26
                      obtain rfl : y4 = u26 := Value.int.inj (hy4.symm.trans hu26)
                      show Own.Fin p e below (T16.setTop (mkF m 479 #[.val (.int p1), .val (.long q2), .second, .val (.int p3), .val (.int p4), .val (.int cc), .val (.int md), .val (.int at_), .val (.int ln), .val (.int ixx), .val (.int pt), .val (.int po), .val (.ref b1), .val (.int (F_esc cc ln y1 y2 y3 y4 y5)), .val (.int (F_sl cc)), .unset] [(.int y4)])) _
                      refine Own.go (fun t k => XS.iload X16.here hx rfl (hb hby at_479) rfl k) ?_
                      show Own.Fin p e below (T16.setTop (mkF m 481 #[.val (.int p1), .val (.long q2), .second, .val (.int p3), .val (.int p4), .val (.int cc), .val (.int md), .val (.int at_), .val (.int ln), .val (.int ixx), .val (.int pt), .val (.int po), .val (.ref b1), .val (.int (F_esc cc ln y1 y2 y3 y4 y5)), .val (.int (F_sl cc)), .unset] [(.int cc), (.int y4)])) _
                      refine Own.go (fun t k => XS.iconst X16.here hx rfl (hb hby at_481) k) ?_
                      show Own.Fin p e below (T16.setTop (mkF m 482 #[.val (.int p1), .val (.long q2), .second, .val (.int p3), .val (.int p4), .val (.int cc), .val (.int md), .val (.int at_), .val (.int ln), .val (.int ixx), .val (.int pt), .val (.int po), .val (.ref b1), .val (.int (F_esc cc ln y1 y2 y3 y4 y5)), .val (.int (F_sl cc)), .unset] [(.int (4 : Int32)), (.int cc), (.int y4)])) _
                      refine Own.go (fun t k => XS.ishr X16.here hx rfl (hb hby at_482) rfl k) ?_
                      show Own.Fin p e below (T16.setTop (mkF m 483 #[.val (.int p1), .val (.long q2), .second, .val (.int p3), .val (.int p4), .val (.int cc), .val (.int md), .val (.int at_), .val (.int ln), .val (.int ixx), .val (.int pt), .val (.int po), .val (.ref b1), .val (.int (F_esc cc ln y1 y2 y3 y4 y5)), .val (.int (F_sl cc)), .unset] [(.int ((cc >>> ((4 : Int32) &&& 31)))), (.int y4)])) _
                      refine Own.cS X16 hx hZ hown (hw _ (List.mem_of_getElem? (i := 2) rfl)) (hw _ (List.mem_of_getElem? (i := 3) rfl)) (hw _ (List.mem_of_getElem? (i := 4) rfl)) (hw _ (List.mem_of_getElem? (i := 5) rfl)) (by decide) (rm1 l Z a0 hw [] ((cc >>> ((4 : Int32) &&& 31))) hj n0 Zj ) (by decide) (W := 1) (by decide) (argsL := [(.int ((cc >>> ((4 : Int32) &&& 31))))]) (rest := [(.int y4)]) (by rw [hml]; rfl) (lenOf pd_1 rfl) rfl (Nat.le_of_eq rfl) (hb hby at_483) e16 (by decide) (by decide) ?_
                      intro T27 L27 v27 X27 hQ27
                      obtain ⟨rfl, N27q, e27⟩ := hQ27
                      have N27 := Fr.app N16 N27q
                      show Own.Fin p e below (T27.setTop (mkF m 486 #[.val (.int p1), .val (.long q2), .second, .val (.int p3), .val (.int p4), .val (.int cc), .val (.int md), .val (.int at_), .val (.int ln), .val (.int ixx), .val (.int pt), .val (.int po), .val (.ref b1), .val (.int (F_esc cc ln y1 y2 y3 y4 y5)), .val (.int (F_sl cc)), .unset] [(.int (F_hl ((cc >>> ((4 : Int32) &&& 31))))), (.int y4)])) _
                      refine Own.go (fun t k => XS.i2b X27.here hx rfl (hb hby at_486) rfl k) ?_
                      show Own.Fin p e below (T27.setTop (mkF m 487 #[.val (.int p1), .val (.long q2), .second, .val (.int p3), .val (.int p4), .val (.int cc), .val (.int md), .val (.int at_), .val (.int ln), .val (.int ixx), .val (.int pt), .val (.int po), .val (.ref b1), .val (.int (F_esc cc ln y1 y2 y3 y4 y5)), .val (.int (F_sl cc)), .unset] [(.int (((F_hl ((cc >>> ((4 : Int32) &&& 31))))).toInt8.toInt32)), (.int y4)])) _
                      by_cases hc487_27 : y4 = (((F_hl ((cc >>> ((4 : Int32) &&& 31))))).toInt8.toInt32)
                      · skip
                        refine Own.go (fun t k => XS.icmpNo X27.here hx rfl (hb hby at_487) rfl (teq hc487_27).2 k) ?_
                        show Own.Fin p e below (T27.setTop (mkF m 490 #[.val (.int p1), .val (.long q2), .second, .val (.int p3), .val (.int p4), .val (.int cc), .val (.int md), .val (.int at_), .val (.int ln), .val (.int ixx), .val (.int pt), .val (.int po), .val (.ref b1), .val (.int (F_esc cc ln y1 y2 y3 y4 y5)), .val (.int (F_sl cc)), .unset] [])) _
                        refine Own.go (fun t k => XS.aload X27.here hx rfl (hb hby at_490) rfl rfl k) ?_
                        show Own.Fin p e below (T27.setTop (mkF m 492 #[.val (.int p1), .val (.long q2), .second, .val (.int p3), .val (.int p4), .val (.int cc), .val (.int md), .val (.int at_), .val (.int ln), .val (.int ixx), .val (.int pt), .val (.int po), .val (.ref b1), .val (.int (F_esc cc ln y1 y2 y3 y4 y5)), .val (.int (F_sl cc)), .unset] [(.ref b1)])) _
                        refine Own.go (fun t k => XS.iload X27.here hx rfl (hb hby at_492) rfl k) ?_
                        show Own.Fin p e below (T27.setTop (mkF m 494 #[.val (.int p1), .val (.long q2), .second, .val (.int p3), .val (.int p4), .val (.int cc), .val (.int md), .val (.int at_), .val (.int ln), .val (.int ixx), .val (.int pt), .val (.int po), .val (.ref b1), .val (.int (F_esc cc ln y1 y2 y3 y4 y5)), .val (.int (F_sl cc)), .unset] [(.int at_), (.ref b1)])) _
                        refine Own.go (fun t k => XS.iconst X27.here hx rfl (hb hby at_494) k) ?_
                        show Own.Fin p e below (T27.setTop (mkF m 495 #[.val (.int p1), .val (.long q2), .second, .val (.int p3), .val (.int p4), .val (.int cc), .val (.int md), .val (.int at_), .val (.int ln), .val (.int ixx), .val (.int pt), .val (.int po), .val (.ref b1), .val (.int (F_esc cc ln y1 y2 y3 y4 y5)), .val (.int (F_sl cc)), .unset] [(.int (5 : Int32)), (.int at_), (.ref b1)])) _
                        refine Own.go (fun t k => XS.iadd X27.here hx rfl (hb hby at_495) rfl k) ?_
                        show Own.Fin p e below (T27.setTop (mkF m 496 #[.val (.int p1), .val (.long q2), .second, .val (.int p3), .val (.int p4), .val (.int cc), .val (.int md), .val (.int at_), .val (.int ln), .val (.int ixx), .val (.int pt), .val (.int po), .val (.ref b1), .val (.int (F_esc cc ln y1 y2 y3 y4 y5)), .val (.int (F_sl cc)), .unset] [(.int (at_ + (5 : Int32))), (.ref b1)])) _
                        refine Own.ldB X27 hx hZ e27 Vj0 (hb hby at_496) (own_at _ 5 5 (by decide) hat (by decide) (by decide)) ?_
                        intro u29 hu29
                        obtain rfl : y5 = u29 := Value.int.inj (hy5.symm.trans hu29)
                        show Own.Fin p e below (T27.setTop (mkF m 497 #[.val (.int p1), .val (.long q2), .second, .val (.int p3), .val (.int p4), .val (.int cc), .val (.int md), .val (.int at_), .val (.int ln), .val (.int ixx), .val (.int pt), .val (.int po), .val (.ref b1), .val (.int (F_esc cc ln y1 y2 y3 y4 y5)), .val (.int (F_sl cc)), .unset] [(.int y5)])) _
                        refine Own.go (fun t k => XS.iload X27.here hx rfl (hb hby at_497) rfl k) ?_
                        show Own.Fin p e below (T27.setTop (mkF m 499 #[.val (.int p1), .val (.long q2), .second, .val (.int p3), .val (.int p4), .val (.int cc), .val (.int md), .val (.int at_), .val (.int ln), .val (.int ixx), .val (.int pt), .val (.int po), .val (.ref b1), .val (.int (F_esc cc ln y1 y2 y3 y4 y5)), .val (.int (F_sl cc)), .unset] [(.int cc), (.int y5)])) _
                        refine Own.go (fun t k => XS.bipush X27.here hx rfl (hb hby at_499) k) ?_
                        show Own.Fin p e below (T27.setTop (mkF m 501 #[.val (.int p1), .val (.long q2), .second, .val (.int p3), .val (.int p4), .val (.int cc), .val (.int md), .val (.int at_), .val (.int ln), .val (.int ixx), .val (.int pt), .val (.int po), .val (.ref b1), .val (.int (F_esc cc ln y1 y2 y3 y4 y5)), .val (.int (F_sl cc)), .unset] [(.int (15 : Int32)), (.int cc), (.int y5)])) _
                        refine Own.go (fun t k => XS.iand X27.here hx rfl (hb hby at_501) rfl k) ?_
                        show Own.Fin p e below (T27.setTop (mkF m 502 #[.val (.int p1), .val (.long q2), .second, .val (.int p3), .val (.int p4), .val (.int cc), .val (.int md), .val (.int at_), .val (.int ln), .val (.int ixx), .val (.int pt), .val (.int po), .val (.ref b1), .val (.int (F_esc cc ln y1 y2 y3 y4 y5)), .val (.int (F_sl cc)), .unset] [(.int (cc &&& (15 : Int32))), (.int y5)])) _
                        refine Own.cS X27 hx hZ hown (hw _ (List.mem_of_getElem? (i := 2) rfl)) (hw _ (List.mem_of_getElem? (i := 3) rfl)) (hw _ (List.mem_of_getElem? (i := 4) rfl)) (hw _ (List.mem_of_getElem? (i := 5) rfl)) (by decide) (rm1 l Z a0 hw [] (cc &&& (15 : Int32)) hj n0 Zj ) (by decide) (W := 1) (by decide) (argsL := [(.int (cc &&& (15 : Int32)))]) (rest := [(.int y5)]) (by rw [hml]; rfl) (lenOf pd_1 rfl) rfl (Nat.le_of_eq rfl) (hb hby at_502) e27 (by decide) (by decide) ?_
                        intro T30 L30 v30 X30 hQ30
                        obtain ⟨rfl, N30q, e30⟩ := hQ30
                        have N30 := Fr.app N27 N30q
                        show Own.Fin p e below (T30.setTop (mkF m 505 #[.val (.int p1), .val (.long q2), .second, .val (.int p3), .val (.int p4), .val (.int cc), .val (.int md), .val (.int at_), .val (.int ln), .val (.int ixx), .val (.int pt), .val (.int po), .val (.ref b1), .val (.int (F_esc cc ln y1 y2 y3 y4 y5)), .val (.int (F_sl cc)), .unset] [(.int (F_hl (cc &&& (15 : Int32)))), (.int y5)])) _
                        refine Own.go (fun t k => XS.i2b X30.here hx rfl (hb hby at_505) rfl k) ?_
                        show Own.Fin p e below (T30.setTop (mkF m 506 #[.val (.int p1), .val (.long q2), .second, .val (.int p3), .val (.int p4), .val (.int cc), .val (.int md), .val (.int at_), .val (.int ln), .val (.int ixx), .val (.int pt), .val (.int po), .val (.ref b1), .val (.int (F_esc cc ln y1 y2 y3 y4 y5)), .val (.int (F_sl cc)), .unset] [(.int (((F_hl (cc &&& (15 : Int32)))).toInt8.toInt32)), (.int y5)])) _
                        by_cases hc506_30 : y5 = (((F_hl (cc &&& (15 : Int32)))).toInt8.toInt32)
                        · skip
                          refine Own.go (fun t k => XS.icmpNo X30.here hx rfl (hb hby at_506) rfl (teq hc506_30).2 k) ?_
                          show Own.Fin p e below (T30.setTop (mkF m 509 #[.val (.int p1), .val (.long q2), .second, .val (.int p3), .val (.int p4), .val (.int cc), .val (.int md), .val (.int at_), .val (.int ln), .val (.int ixx), .val (.int pt), .val (.int po), .val (.ref b1), .val (.int (F_esc cc ln y1 y2 y3 y4 y5)), .val (.int (F_sl cc)), .unset] [])) _
                          refine Own.go (fun t k => XS.iconst X30.here hx rfl (hb hby at_509) k) ?_
                          show Own.Fin p e below (T30.setTop (mkF m 510 #[.val (.int p1), .val (.long q2), .second, .val (.int p3), .val (.int p4), .val (.int cc), .val (.int md), .val (.int at_), .val (.int ln), .val (.int ixx), .val (.int pt), .val (.int po), .val (.ref b1), .val (.int (F_esc cc ln y1 y2 y3 y4 y5)), .val (.int (F_sl cc)), .unset] [(.int (1 : Int32))])) _
                          refine Own.go (fun t k => XS.goto X30.here hx rfl (pc0 := 510) (pc' := 514) rfl (hb hby at_510) (by decide) (by decide) k) ?_
                          show Own.Fin p e below (T30.setTop (mkF m 514 #[.val (.int p1), .val (.long q2), .second, .val (.int p3), .val (.int p4), .val (.int cc), .val (.int md), .val (.int at_), .val (.int ln), .val (.int ixx), .val (.int pt), .val (.int po), .val (.ref b1), .val (.int (F_esc cc ln y1 y2 y3 y4 y5)), .val (.int (F_sl cc)), .unset] [(.int (1 : Int32))])) _
                          refine Own.go (fun t k => XS.istore X30.here hx rfl (hb hby at_514) rfl (l' := #[.val (.int p1), .val (.long q2), .second, .val (.int p3), .val (.int p4), .val (.int cc), .val (.int md), .val (.int at_), .val (.int ln), .val (.int ixx), .val (.int pt), .val (.int po), .val (.ref b1), .val (.int (F_esc cc ln y1 y2 y3 y4 y5)), .val (.int (F_sl cc)), .val (.int (1 : Int32))]) rfl k) ?_
                          show Own.Fin p e below (T30.setTop (mkF m 516 #[.val (.int p1), .val (.long q2), .second, .val (.int p3), .val (.int p4), .val (.int cc), .val (.int md), .val (.int at_), .val (.int ln), .val (.int ixx), .val (.int pt), .val (.int po), .val (.ref b1), .val (.int (F_esc cc ln y1 y2 y3 y4 y5)), .val (.int (F_sl cc)), .val (.int (1 : Int32))] [])) _
                          refine Own.go (fun t k => XS.goto X30.here hx rfl (pc0 := 516) (pc' := 522) rfl (hb hby at_516) (by decide) (by decide) k) ?_
                          show Own.Fin p e below (T30.setTop (mkF m 522 #[.val (.int p1), .val (.long q2), .second, .val (.int p3), .val (.int p4), .val (.int cc), .val (.int md), .val (.int at_), .val (.int ln), .val (.int ixx), .val (.int pt), .val (.int po), .val (.ref b1), .val (.int (F_esc cc ln y1 y2 y3 y4 y5)), .val (.int (F_sl cc)), .val (.int (1 : Int32))] [])) _
                          refine Own.go (fun t k => XS.iload X30.here hx rfl (hb hby at_522) rfl k) ?_
                          show Own.Fin p e below (T30.setTop (mkF m 524 #[.val (.int p1), .val (.long q2), .second, .val (.int p3), .val (.int p4), .val (.int cc), .val (.int md), .val (.int at_), .val (.int ln), .val (.int ixx), .val (.int pt), .val (.int po), .val (.ref b1), .val (.int (F_esc cc ln y1 y2 y3 y4 y5)), .val (.int (F_sl cc)), .val (.int (1 : Int32))] [(.int (F_esc cc ln y1 y2 y3 y4 y5))])) _
                          refine Own.go (fun t k => XS.iload X30.here hx rfl (hb hby at_524) rfl k) ?_
                          show Own.Fin p e below (T30.setTop (mkF m 526 #[.val (.int p1), .val (.long q2), .second, .val (.int p3), .val (.int p4), .val (.int cc), .val (.int md), .val (.int at_), .val (.int ln), .val (.int ixx), .val (.int pt), .val (.int po), .val (.ref b1), .val (.int (F_esc cc ln y1 y2 y3 y4 y5)), .val (.int (F_sl cc)), .val (.int (1 : Int32))] [(.int (1 : Int32)), (.int (F_esc cc ln y1 y2 y3 y4 y5))])) _
                          have hc526_31 : (F_esc cc ln y1 y2 y3 y4 y5) = (1 : Int32) := by rw [own_esc _ _ _ _ _ _ _ hc.1]; simp only [F_want, hc390_16, hc426_17, hc433_18, hc445_20, hc457_22, hc469_24, hc487_27, hc506_30, if_true, if_false]
                          refine Own.go (fun t k => XS.icmpNo X30.here hx rfl (hb hby at_526) rfl (teq hc526_31).2 k) ?_
                          show Own.Fin p e below (T30.setTop (mkF m 529 #[.val (.int p1), .val (.long q2), .second, .val (.int p3), .val (.int p4), .val (.int cc), .val (.int md), .val (.int at_), .val (.int ln), .val (.int ixx), .val (.int pt), .val (.int po), .val (.ref b1), .val (.int (F_esc cc ln y1 y2 y3 y4 y5)), .val (.int (F_sl cc)), .val (.int (1 : Int32))] [])) _
                          refine Own.go (fun t k => XS.iconst X30.here hx rfl (hb hby at_529) k) ?_
                          show Own.Fin p e below (T30.setTop (mkF m 530 #[.val (.int p1), .val (.long q2), .second, .val (.int p3), .val (.int p4), .val (.int cc), .val (.int md), .val (.int at_), .val (.int ln), .val (.int ixx), .val (.int pt), .val (.int po), .val (.ref b1), .val (.int (F_esc cc ln y1 y2 y3 y4 y5)), .val (.int (F_sl cc)), .val (.int (1 : Int32))] [(.int (1 : Int32))])) _
                          refine Own.go (fun t k => XS.goto X30.here hx rfl (pc0 := 530) (pc' := 534) rfl (hb hby at_530) (by decide) (by decide) k) ?_
                          show Own.Fin p e below (T30.setTop (mkF m 534 #[.val (.int p1), .val (.long q2), .second, .val (.int p3), .val (.int p4), .val (.int cc), .val (.int md), .val (.int at_), .val (.int ln), .val (.int ixx), .val (.int pt), .val (.int po), .val (.ref b1), .val (.int (F_esc cc ln y1 y2 y3 y4 y5)), .val (.int (F_sl cc)), .val (.int (1 : Int32))] [(.int (1 : Int32))])) _
                          refine Own.retN X30 hx Bd.notSynchronized (t := .boolean) Bd.returns (by simp) (hb hby at_534) (by decide) (by decide) ?_
                          exact ⟨rfl, N30⟩
                        · skip
                          refine Own.go (fun t k => XS.icmpYes X30.here hx rfl (pc0 := 506) (pc' := 513) rfl (hb hby at_506) rfl (feq hc506_30).2 (by decide) (by decide) k) ?_
                          show Own.Fin p e below (T30.setTop (mkF m 513 #[.val (.int p1), .val (.long q2), .second, .val (.int p3), .val (.int p4), .val (.int cc), .val (.int md), .val (.int at_), .val (.int ln), .val (.int ixx), .val (.int pt), .val (.int po), .val (.ref b1), .val (.int (F_esc cc ln y1 y2 y3 y4 y5)), .val (.int (F_sl cc)), .unset] [])) _
                          refine Own.go (fun t k => XS.iconst X30.here hx rfl (hb hby at_513) k) ?_
                          show Own.Fin p e below (T30.setTop (mkF m 514 #[.val (.int p1), .val (.long q2), .second, .val (.int p3), .val (.int p4), .val (.int cc), .val (.int md), .val (.int at_), .val (.int ln), .val (.int ixx), .val (.int pt), .val (.int po), .val (.ref b1), .val (.int (F_esc cc ln y1 y2 y3 y4 y5)), .val (.int (F_sl cc)), .unset] [(.int (0 : Int32))])) _
                          refine Own.go (fun t k => XS.istore X30.here hx rfl (hb hby at_514) rfl (l' := #[.val (.int p1), .val (.long q2), .second, .val (.int p3), .val (.int p4), .val (.int cc), .val (.int md), .val (.int at_), .val (.int ln), .val (.int ixx), .val (.int pt), .val (.int po), .val (.ref b1), .val (.int (F_esc cc ln y1 y2 y3 y4 y5)), .val (.int (F_sl cc)), .val (.int (0 : Int32))]) rfl k) ?_
                          show Own.Fin p e below (T30.setTop (mkF m 516 #[.val (.int p1), .val (.long q2), .second, .val (.int p3), .val (.int p4), .val (.int cc), .val (.int md), .val (.int at_), .val (.int ln), .val (.int ixx), .val (.int pt), .val (.int po), .val (.ref b1), .val (.int (F_esc cc ln y1 y2 y3 y4 y5)), .val (.int (F_sl cc)), .val (.int (0 : Int32))] [])) _
                          refine Own.go (fun t k => XS.goto X30.here hx rfl (pc0 := 516) (pc' := 522) rfl (hb hby at_516) (by decide) (by decide) k) ?_
                          show Own.Fin p e below (T30.setTop (mkF m 522 #[.val (.int p1), .val (.long q2), .second, .val (.int p3), .val (.int p4), .val (.int cc), .val (.int md), .val (.int at_), .val (.int ln), .val (.int ixx), .val (.int pt), .val (.int po), .val (.ref b1), .val (.int (F_esc cc ln y1 y2 y3 y4 y5)), .val (.int (F_sl cc)), .val (.int (0 : Int32))] [])) _
                          refine Own.go (fun t k => XS.iload X30.here hx rfl (hb hby at_522) rfl k) ?_
                          show Own.Fin p e below (T30.setTop (mkF m 524 #[.val (.int p1), .val (.long q2), .second, .val (.int p3), .val (.int p4), .val (.int cc), .val (.int md), .val (.int at_), .val (.int ln), .val (.int ixx), .val (.int pt), .val (.int po), .val (.ref b1), .val (.int (F_esc cc ln y1 y2 y3 y4 y5)), .val (.int (F_sl cc)), .val (.int (0 : Int32))] [(.int (F_esc cc ln y1 y2 y3 y4 y5))])) _
                          refine Own.go (fun t k => XS.iload X30.here hx rfl (hb hby at_524) rfl k) ?_
                          show Own.Fin p e below (T30.setTop (mkF m 526 #[.val (.int p1), .val (.long q2), .second, .val (.int p3), .val (.int p4), .val (.int cc), .val (.int md), .val (.int at_), .val (.int ln), .val (.int ixx), .val (.int pt), .val (.int po), .val (.ref b1), .val (.int (F_esc cc ln y1 y2 y3 y4 y5)), .val (.int (F_sl cc)), .val (.int (0 : Int32))] [(.int (0 : Int32)), (.int (F_esc cc ln y1 y2 y3 y4 y5))])) _
                          have hc526_32 : (F_esc cc ln y1 y2 y3 y4 y5) = (0 : Int32) := by rw [own_esc _ _ _ _ _ _ _ hc.1]; simp only [F_want, hc390_16, hc426_17, hc433_18, hc445_20, hc457_22, hc469_24, hc487_27, hc506_30, if_true, if_false]
                          refine Own.go (fun t k => XS.icmpNo X30.here hx rfl (hb hby at_526) rfl (teq hc526_32).2 k) ?_
                          show Own.Fin p e below (T30.setTop (mkF m 529 #[.val (.int p1), .val (.long q2), .second, .val (.int p3), .val (.int p4), .val (.int cc), .val (.int md), .val (.int at_), .val (.int ln), .val (.int ixx), .val (.int pt), .val (.int po), .val (.ref b1), .val (.int (F_esc cc ln y1 y2 y3 y4 y5)), .val (.int (F_sl cc)), .val (.int (0 : Int32))] [])) _
                          refine Own.go (fun t k => XS.iconst X30.here hx rfl (hb hby at_529) k) ?_
                          show Own.Fin p e below (T30.setTop (mkF m 530 #[.val (.int p1), .val (.long q2), .second, .val (.int p3), .val (.int p4), .val (.int cc), .val (.int md), .val (.int at_), .val (.int ln), .val (.int ixx), .val (.int pt), .val (.int po), .val (.ref b1), .val (.int (F_esc cc ln y1 y2 y3 y4 y5)), .val (.int (F_sl cc)), .val (.int (0 : Int32))] [(.int (1 : Int32))])) _
                          refine Own.go (fun t k => XS.goto X30.here hx rfl (pc0 := 530) (pc' := 534) rfl (hb hby at_530) (by decide) (by decide) k) ?_
                          show Own.Fin p e below (T30.setTop (mkF m 534 #[.val (.int p1), .val (.long q2), .second, .val (.int p3), .val (.int p4), .val (.int cc), .val (.int md), .val (.int at_), .val (.int ln), .val (.int ixx), .val (.int pt), .val (.int po), .val (.ref b1), .val (.int (F_esc cc ln y1 y2 y3 y4 y5)), .val (.int (F_sl cc)), .val (.int (0 : Int32))] [(.int (1 : Int32))])) _
                          refine Own.retN X30 hx Bd.notSynchronized (t := .boolean) Bd.returns (by simp) (hb hby at_534) (by decide) (by decide) ?_
                          exact ⟨rfl, N30⟩
                      · skip
                        refine Own.go (fun t k => XS.icmpYes X27.here hx rfl (pc0 := 487) (pc' := 513) rfl (hb hby at_487) rfl (feq hc487_27).2 (by decide) (by decide) k) ?_
                        show Own.Fin p e below (T27.setTop (mkF m 513 #[.val (.int p1), .val (.long q2), .second, .val (.int p3), .val (.int p4), .val (.int cc), .val (.int md), .val (.int at_), .val (.int ln), .val (.int ixx), .val (.int pt), .val (.int po), .val (.ref b1), .val (.int (F_esc cc ln y1 y2 y3 y4 y5)), .val (.int (F_sl cc)), .unset] [])) _
                        refine Own.go (fun t k => XS.iconst X27.here hx rfl (hb hby at_513) k) ?_
                        show Own.Fin p e below (T27.setTop (mkF m 514 #[.val (.int p1), .val (.long q2), .second, .val (.int p3), .val (.int p4), .val (.int cc), .val (.int md), .val (.int at_), .val (.int ln), .val (.int ixx), .val (.int pt), .val (.int po), .val (.ref b1), .val (.int (F_esc cc ln y1 y2 y3 y4 y5)), .val (.int (F_sl cc)), .unset] [(.int (0 : Int32))])) _
                        refine Own.go (fun t k => XS.istore X27.here hx rfl (hb hby at_514) rfl (l' := #[.val (.int p1), .val (.long q2), .second, .val (.int p3), .val (.int p4), .val (.int cc), .val (.int md), .val (.int at_), .val (.int ln), .val (.int ixx), .val (.int pt), .val (.int po), .val (.ref b1), .val (.int (F_esc cc ln y1 y2 y3 y4 y5)), .val (.int (F_sl cc)), .val (.int (0 : Int32))]) rfl k) ?_
                        show Own.Fin p e below (T27.setTop (mkF m 516 #[.val (.int p1), .val (.long q2), .second, .val (.int p3), .val (.int p4), .val (.int cc), .val (.int md), .val (.int at_), .val (.int ln), .val (.int ixx), .val (.int pt), .val (.int po), .val (.ref b1), .val (.int (F_esc cc ln y1 y2 y3 y4 y5)), .val (.int (F_sl cc)), .val (.int (0 : Int32))] [])) _
                        refine Own.go (fun t k => XS.goto X27.here hx rfl (pc0 := 516) (pc' := 522) rfl (hb hby at_516) (by decide) (by decide) k) ?_
                        show Own.Fin p e below (T27.setTop (mkF m 522 #[.val (.int p1), .val (.long q2), .second, .val (.int p3), .val (.int p4), .val (.int cc), .val (.int md), .val (.int at_), .val (.int ln), .val (.int ixx), .val (.int pt), .val (.int po), .val (.ref b1), .val (.int (F_esc cc ln y1 y2 y3 y4 y5)), .val (.int (F_sl cc)), .val (.int (0 : Int32))] [])) _
                        refine Own.go (fun t k => XS.iload X27.here hx rfl (hb hby at_522) rfl k) ?_
                        show Own.Fin p e below (T27.setTop (mkF m 524 #[.val (.int p1), .val (.long q2), .second, .val (.int p3), .val (.int p4), .val (.int cc), .val (.int md), .val (.int at_), .val (.int ln), .val (.int ixx), .val (.int pt), .val (.int po), .val (.ref b1), .val (.int (F_esc cc ln y1 y2 y3 y4 y5)), .val (.int (F_sl cc)), .val (.int (0 : Int32))] [(.int (F_esc cc ln y1 y2 y3 y4 y5))])) _
                        refine Own.go (fun t k => XS.iload X27.here hx rfl (hb hby at_524) rfl k) ?_
                        show Own.Fin p e below (T27.setTop (mkF m 526 #[.val (.int p1), .val (.long q2), .second, .val (.int p3), .val (.int p4), .val (.int cc), .val (.int md), .val (.int at_), .val (.int ln), .val (.int ixx), .val (.int pt), .val (.int po), .val (.ref b1), .val (.int (F_esc cc ln y1 y2 y3 y4 y5)), .val (.int (F_sl cc)), .val (.int (0 : Int32))] [(.int (0 : Int32)), (.int (F_esc cc ln y1 y2 y3 y4 y5))])) _
                        have hc526_33 : (F_esc cc ln y1 y2 y3 y4 y5) = (0 : Int32) := by rw [own_esc _ _ _ _ _ _ _ hc.1]; simp only [F_want, hc390_16, hc426_17, hc433_18, hc445_20, hc457_22, hc469_24, hc487_27, if_true, if_false]
                        refine Own.go (fun t k => XS.icmpNo X27.here hx rfl (hb hby at_526) rfl (teq hc526_33).2 k) ?_
                        show Own.Fin p e below (T27.setTop (mkF m 529 #[.val (.int p1), .val (.long q2), .second, .val (.int p3), .val (.int p4), .val (.int cc), .val (.int md), .val (.int at_), .val (.int ln), .val (.int ixx), .val (.int pt), .val (.int po), .val (.ref b1), .val (.int (F_esc cc ln y1 y2 y3 y4 y5)), .val (.int (F_sl cc)), .val (.int (0 : Int32))] [])) _
                        refine Own.go (fun t k => XS.iconst X27.here hx rfl (hb hby at_529) k) ?_
                        show Own.Fin p e below (T27.setTop (mkF m 530 #[.val (.int p1), .val (.long q2), .second, .val (.int p3), .val (.int p4), .val (.int cc), .val (.int md), .val (.int at_), .val (.int ln), .val (.int ixx), .val (.int pt), .val (.int po), .val (.ref b1), .val (.int (F_esc cc ln y1 y2 y3 y4 y5)), .val (.int (F_sl cc)), .val (.int (0 : Int32))] [(.int (1 : Int32))])) _
                        refine Own.go (fun t k => XS.goto X27.here hx rfl (pc0 := 530) (pc' := 534) rfl (hb hby at_530) (by decide) (by decide) k) ?_
                        show Own.Fin p e below (T27.setTop (mkF m 534 #[.val (.int p1), .val (.long q2), .second, .val (.int p3), .val (.int p4), .val (.int cc), .val (.int md), .val (.int at_), .val (.int ln), .val (.int ixx), .val (.int pt), .val (.int po), .val (.ref b1), .val (.int (F_esc cc ln y1 y2 y3 y4 y5)), .val (.int (F_sl cc)), .val (.int (0 : Int32))] [(.int (1 : Int32))])) _
                        refine Own.retN X27 hx Bd.notSynchronized (t := .boolean) Bd.returns (by simp) (hb hby at_534) (by decide) (by decide) ?_
                        exact ⟨rfl, N27⟩
                    · skip
                      refine Own.go (fun t k => XS.icmpYes X16.here hx rfl (pc0 := 469) (pc' := 513) rfl (hb hby at_469) rfl (feq hc469_24).2 (by decide) (by decide) k) ?_
                      show Own.Fin p e below (T16.setTop (mkF m 513 #[.val (.int p1), .val (.long q2), .second, .val (.int p3), .val (.int p4), .val (.int cc), .val (.int md), .val (.int at_), .val (.int ln), .val (.int ixx), .val (.int pt), .val (.int po), .val (.ref b1), .val (.int (F_esc cc ln y1 y2 y3 y4 y5)), .val (.int (F_sl cc)), .unset] [])) _
                      refine Own.go (fun t k => XS.iconst X16.here hx rfl (hb hby at_513) k) ?_
                      show Own.Fin p e below (T16.setTop (mkF m 514 #[.val (.int p1), .val (.long q2), .second, .val (.int p3), .val (.int p4), .val (.int cc), .val (.int md), .val (.int at_), .val (.int ln), .val (.int ixx), .val (.int pt), .val (.int po), .val (.ref b1), .val (.int (F_esc cc ln y1 y2 y3 y4 y5)), .val (.int (F_sl cc)), .unset] [(.int (0 : Int32))])) _
                      refine Own.go (fun t k => XS.istore X16.here hx rfl (hb hby at_514) rfl (l' := #[.val (.int p1), .val (.long q2), .second, .val (.int p3), .val (.int p4), .val (.int cc), .val (.int md), .val (.int at_), .val (.int ln), .val (.int ixx), .val (.int pt), .val (.int po), .val (.ref b1), .val (.int (F_esc cc ln y1 y2 y3 y4 y5)), .val (.int (F_sl cc)), .val (.int (0 : Int32))]) rfl k) ?_
                      show Own.Fin p e below (T16.setTop (mkF m 516 #[.val (.int p1), .val (.long q2), .second, .val (.int p3), .val (.int p4), .val (.int cc), .val (.int md), .val (.int at_), .val (.int ln), .val (.int ixx), .val (.int pt), .val (.int po), .val (.ref b1), .val (.int (F_esc cc ln y1 y2 y3 y4 y5)), .val (.int (F_sl cc)), .val (.int (0 : Int32))] [])) _
                      refine Own.go (fun t k => XS.goto X16.here hx rfl (pc0 := 516) (pc' := 522) rfl (hb hby at_516) (by decide) (by decide) k) ?_
                      show Own.Fin p e below (T16.setTop (mkF m 522 #[.val (.int p1), .val (.long q2), .second, .val (.int p3), .val (.int p4), .val (.int cc), .val (.int md), .val (.int at_), .val (.int ln), .val (.int ixx), .val (.int pt), .val (.int po), .val (.ref b1), .val (.int (F_esc cc ln y1 y2 y3 y4 y5)), .val (.int (F_sl cc)), .val (.int (0 : Int32))] [])) _
                      refine Own.go (fun t k => XS.iload X16.here hx rfl (hb hby at_522) rfl k) ?_
                      show Own.Fin p e below (T16.setTop (mkF m 524 #[.val (.int p1), .val (.long q2), .second, .val (.int p3), .val (.int p4), .val (.int cc), .val (.int md), .val (.int at_), .val (.int ln), .val (.int ixx), .val (.int pt), .val (.int po), .val (.ref b1), .val (.int (F_esc cc ln y1 y2 y3 y4 y5)), .val (.int (F_sl cc)), .val (.int (0 : Int32))] [(.int (F_esc cc ln y1 y2 y3 y4 y5))])) _
                      refine Own.go (fun t k => XS.iload X16.here hx rfl (hb hby at_524) rfl k) ?_
                      show Own.Fin p e below (T16.setTop (mkF m 526 #[.val (.int p1), .val (.long q2), .second, .val (.int p3), .val (.int p4), .val (.int cc), .val (.int md), .val (.int at_), .val (.int ln), .val (.int ixx), .val (.int pt), .val (.int po), .val (.ref b1), .val (.int (F_esc cc ln y1 y2 y3 y4 y5)), .val (.int (F_sl cc)), .val (.int (0 : Int32))] [(.int (0 : Int32)), (.int (F_esc cc ln y1 y2 y3 y4 y5))])) _
                      have hc526_34 : (F_esc cc ln y1 y2 y3 y4 y5) = (0 : Int32) := by rw [own_esc _ _ _ _ _ _ _ hc.1]; simp only [F_want, hc390_16, hc426_17, hc433_18, hc445_20, hc457_22, hc469_24, if_true, if_false]
                      refine Own.go (fun t k => XS.icmpNo X16.here hx rfl (hb hby at_526) rfl (teq hc526_34).2 k) ?_
                      show Own.Fin p e below (T16.setTop (mkF m 529 #[.val (.int p1), .val (.long q2), .second, .val (.int p3), .val (.int p4), .val (.int cc), .val (.int md), .val (.int at_), .val (.int ln), .val (.int ixx), .val (.int pt), .val (.int po), .val (.ref b1), .val (.int (F_esc cc ln y1 y2 y3 y4 y5)), .val (.int (F_sl cc)), .val (.int (0 : Int32))] [])) _
                      refine Own.go (fun t k => XS.iconst X16.here hx rfl (hb hby at_529) k) ?_
                      show Own.Fin p e below (T16.setTop (mkF m 530 #[.val (.int p1), .val (.long q2), .second, .val (.int p3), .val (.int p4), .val (.int cc), .val (.int md), .val (.int at_), .val (.int ln), .val (.int ixx), .val (.int pt), .val (.int po), .val (.ref b1), .val (.int (F_esc cc ln y1 y2 y3 y4 y5)), .val (.int (F_sl cc)), .val (.int (0 : Int32))] [(.int (1 : Int32))])) _
                      refine Own.go (fun t k => XS.goto X16.here hx rfl (pc0 := 530) (pc' := 534) rfl (hb hby at_530) (by decide) (by decide) k) ?_
                      show Own.Fin p e below (T16.setTop (mkF m 534 #[.val (.int p1), .val (.long q2), .second, .val (.int p3), .val (.int p4), .val (.int cc), .val (.int md), .val (.int at_), .val (.int ln), .val (.int ixx), .val (.int pt), .val (.int po), .val (.ref b1), .val (.int (F_esc cc ln y1 y2 y3 y4 y5)), .val (.int (F_sl cc)), .val (.int (0 : Int32))] [(.int (1 : Int32))])) _
                      refine Own.retN X16 hx Bd.notSynchronized (t := .boolean) Bd.returns (by simp) (hb hby at_534) (by decide) (by decide) ?_
                      exact ⟨rfl, N16⟩
                  · skip
                    refine Own.go (fun t k => XS.icmpYes X16.here hx rfl (pc0 := 457) (pc' := 513) rfl (hb hby at_457) rfl (feq hc457_22).2 (by decide) (by decide) k) ?_
                    show Own.Fin p e below (T16.setTop (mkF m 513 #[.val (.int p1), .val (.long q2), .second, .val (.int p3), .val (.int p4), .val (.int cc), .val (.int md), .val (.int at_), .val (.int ln), .val (.int ixx), .val (.int pt), .val (.int po), .val (.ref b1), .val (.int (F_esc cc ln y1 y2 y3 y4 y5)), .val (.int (F_sl cc)), .unset] [])) _
                    refine Own.go (fun t k => XS.iconst X16.here hx rfl (hb hby at_513) k) ?_
                    show Own.Fin p e below (T16.setTop (mkF m 514 #[.val (.int p1), .val (.long q2), .second, .val (.int p3), .val (.int p4), .val (.int cc), .val (.int md), .val (.int at_), .val (.int ln), .val (.int ixx), .val (.int pt), .val (.int po), .val (.ref b1), .val (.int (F_esc cc ln y1 y2 y3 y4 y5)), .val (.int (F_sl cc)), .unset] [(.int (0 : Int32))])) _
                    refine Own.go (fun t k => XS.istore X16.here hx rfl (hb hby at_514) rfl (l' := #[.val (.int p1), .val (.long q2), .second, .val (.int p3), .val (.int p4), .val (.int cc), .val (.int md), .val (.int at_), .val (.int ln), .val (.int ixx), .val (.int pt), .val (.int po), .val (.ref b1), .val (.int (F_esc cc ln y1 y2 y3 y4 y5)), .val (.int (F_sl cc)), .val (.int (0 : Int32))]) rfl k) ?_
                    show Own.Fin p e below (T16.setTop (mkF m 516 #[.val (.int p1), .val (.long q2), .second, .val (.int p3), .val (.int p4), .val (.int cc), .val (.int md), .val (.int at_), .val (.int ln), .val (.int ixx), .val (.int pt), .val (.int po), .val (.ref b1), .val (.int (F_esc cc ln y1 y2 y3 y4 y5)), .val (.int (F_sl cc)), .val (.int (0 : Int32))] [])) _
                    refine Own.go (fun t k => XS.goto X16.here hx rfl (pc0 := 516) (pc' := 522) rfl (hb hby at_516) (by decide) (by decide) k) ?_
                    show Own.Fin p e below (T16.setTop (mkF m 522 #[.val (.int p1), .val (.long q2), .second, .val (.int p3), .val (.int p4), .val (.int cc), .val (.int md), .val (.int at_), .val (.int ln), .val (.int ixx), .val (.int pt), .val (.int po), .val (.ref b1), .val (.int (F_esc cc ln y1 y2 y3 y4 y5)), .val (.int (F_sl cc)), .val (.int (0 : Int32))] [])) _
                    refine Own.go (fun t k => XS.iload X16.here hx rfl (hb hby at_522) rfl k) ?_
                    show Own.Fin p e below (T16.setTop (mkF m 524 #[.val (.int p1), .val (.long q2), .second, .val (.int p3), .val (.int p4), .val (.int cc), .val (.int md), .val (.int at_), .val (.int ln), .val (.int ixx), .val (.int pt), .val (.int po), .val (.ref b1), .val (.int (F_esc cc ln y1 y2 y3 y4 y5)), .val (.int (F_sl cc)), .val (.int (0 : Int32))] [(.int (F_esc cc ln y1 y2 y3 y4 y5))])) _
                    refine Own.go (fun t k => XS.iload X16.here hx rfl (hb hby at_524) rfl k) ?_
                    show Own.Fin p e below (T16.setTop (mkF m 526 #[.val (.int p1), .val (.long q2), .second, .val (.int p3), .val (.int p4), .val (.int cc), .val (.int md), .val (.int at_), .val (.int ln), .val (.int ixx), .val (.int pt), .val (.int po), .val (.ref b1), .val (.int (F_esc cc ln y1 y2 y3 y4 y5)), .val (.int (F_sl cc)), .val (.int (0 : Int32))] [(.int (0 : Int32)), (.int (F_esc cc ln y1 y2 y3 y4 y5))])) _
                    have hc526_35 : (F_esc cc ln y1 y2 y3 y4 y5) = (0 : Int32) := by rw [own_esc _ _ _ _ _ _ _ hc.1]; simp only [F_want, hc390_16, hc426_17, hc433_18, hc445_20, hc457_22, if_true, if_false]
                    refine Own.go (fun t k => XS.icmpNo X16.here hx rfl (hb hby at_526) rfl (teq hc526_35).2 k) ?_
                    show Own.Fin p e below (T16.setTop (mkF m 529 #[.val (.int p1), .val (.long q2), .second, .val (.int p3), .val (.int p4), .val (.int cc), .val (.int md), .val (.int at_), .val (.int ln), .val (.int ixx), .val (.int pt), .val (.int po), .val (.ref b1), .val (.int (F_esc cc ln y1 y2 y3 y4 y5)), .val (.int (F_sl cc)), .val (.int (0 : Int32))] [])) _
                    refine Own.go (fun t k => XS.iconst X16.here hx rfl (hb hby at_529) k) ?_
                    show Own.Fin p e below (T16.setTop (mkF m 530 #[.val (.int p1), .val (.long q2), .second, .val (.int p3), .val (.int p4), .val (.int cc), .val (.int md), .val (.int at_), .val (.int ln), .val (.int ixx), .val (.int pt), .val (.int po), .val (.ref b1), .val (.int (F_esc cc ln y1 y2 y3 y4 y5)), .val (.int (F_sl cc)), .val (.int (0 : Int32))] [(.int (1 : Int32))])) _
                    refine Own.go (fun t k => XS.goto X16.here hx rfl (pc0 := 530) (pc' := 534) rfl (hb hby at_530) (by decide) (by decide) k) ?_
                    show Own.Fin p e below (T16.setTop (mkF m 534 #[.val (.int p1), .val (.long q2), .second, .val (.int p3), .val (.int p4), .val (.int cc), .val (.int md), .val (.int at_), .val (.int ln), .val (.int ixx), .val (.int pt), .val (.int po), .val (.ref b1), .val (.int (F_esc cc ln y1 y2 y3 y4 y5)), .val (.int (F_sl cc)), .val (.int (0 : Int32))] [(.int (1 : Int32))])) _
                    refine Own.retN X16 hx Bd.notSynchronized (t := .boolean) Bd.returns (by simp) (hb hby at_534) (by decide) (by decide) ?_
                    exact ⟨rfl, N16⟩
                · skip
                  refine Own.go (fun t k => XS.icmpYes X16.here hx rfl (pc0 := 445) (pc' := 513) rfl (hb hby at_445) rfl (feq hc445_20).2 (by decide) (by decide) k) ?_
                  show Own.Fin p e below (T16.setTop (mkF m 513 #[.val (.int p1), .val (.long q2), .second, .val (.int p3), .val (.int p4), .val (.int cc), .val (.int md), .val (.int at_), .val (.int ln), .val (.int ixx), .val (.int pt), .val (.int po), .val (.ref b1), .val (.int (F_esc cc ln y1 y2 y3 y4 y5)), .val (.int (F_sl cc)), .unset] [])) _
                  refine Own.go (fun t k => XS.iconst X16.here hx rfl (hb hby at_513) k) ?_
                  show Own.Fin p e below (T16.setTop (mkF m 514 #[.val (.int p1), .val (.long q2), .second, .val (.int p3), .val (.int p4), .val (.int cc), .val (.int md), .val (.int at_), .val (.int ln), .val (.int ixx), .val (.int pt), .val (.int po), .val (.ref b1), .val (.int (F_esc cc ln y1 y2 y3 y4 y5)), .val (.int (F_sl cc)), .unset] [(.int (0 : Int32))])) _
                  refine Own.go (fun t k => XS.istore X16.here hx rfl (hb hby at_514) rfl (l' := #[.val (.int p1), .val (.long q2), .second, .val (.int p3), .val (.int p4), .val (.int cc), .val (.int md), .val (.int at_), .val (.int ln), .val (.int ixx), .val (.int pt), .val (.int po), .val (.ref b1), .val (.int (F_esc cc ln y1 y2 y3 y4 y5)), .val (.int (F_sl cc)), .val (.int (0 : Int32))]) rfl k) ?_
                  show Own.Fin p e below (T16.setTop (mkF m 516 #[.val (.int p1), .val (.long q2), .second, .val (.int p3), .val (.int p4), .val (.int cc), .val (.int md), .val (.int at_), .val (.int ln), .val (.int ixx), .val (.int pt), .val (.int po), .val (.ref b1), .val (.int (F_esc cc ln y1 y2 y3 y4 y5)), .val (.int (F_sl cc)), .val (.int (0 : Int32))] [])) _
                  refine Own.go (fun t k => XS.goto X16.here hx rfl (pc0 := 516) (pc' := 522) rfl (hb hby at_516) (by decide) (by decide) k) ?_
                  show Own.Fin p e below (T16.setTop (mkF m 522 #[.val (.int p1), .val (.long q2), .second, .val (.int p3), .val (.int p4), .val (.int cc), .val (.int md), .val (.int at_), .val (.int ln), .val (.int ixx), .val (.int pt), .val (.int po), .val (.ref b1), .val (.int (F_esc cc ln y1 y2 y3 y4 y5)), .val (.int (F_sl cc)), .val (.int (0 : Int32))] [])) _
                  refine Own.go (fun t k => XS.iload X16.here hx rfl (hb hby at_522) rfl k) ?_
                  show Own.Fin p e below (T16.setTop (mkF m 524 #[.val (.int p1), .val (.long q2), .second, .val (.int p3), .val (.int p4), .val (.int cc), .val (.int md), .val (.int at_), .val (.int ln), .val (.int ixx), .val (.int pt), .val (.int po), .val (.ref b1), .val (.int (F_esc cc ln y1 y2 y3 y4 y5)), .val (.int (F_sl cc)), .val (.int (0 : Int32))] [(.int (F_esc cc ln y1 y2 y3 y4 y5))])) _
                  refine Own.go (fun t k => XS.iload X16.here hx rfl (hb hby at_524) rfl k) ?_
                  show Own.Fin p e below (T16.setTop (mkF m 526 #[.val (.int p1), .val (.long q2), .second, .val (.int p3), .val (.int p4), .val (.int cc), .val (.int md), .val (.int at_), .val (.int ln), .val (.int ixx), .val (.int pt), .val (.int po), .val (.ref b1), .val (.int (F_esc cc ln y1 y2 y3 y4 y5)), .val (.int (F_sl cc)), .val (.int (0 : Int32))] [(.int (0 : Int32)), (.int (F_esc cc ln y1 y2 y3 y4 y5))])) _
                  have hc526_36 : (F_esc cc ln y1 y2 y3 y4 y5) = (0 : Int32) := by rw [own_esc _ _ _ _ _ _ _ hc.1]; simp only [F_want, hc390_16, hc426_17, hc433_18, hc445_20, if_true, if_false]
                  refine Own.go (fun t k => XS.icmpNo X16.here hx rfl (hb hby at_526) rfl (teq hc526_36).2 k) ?_
                  show Own.Fin p e below (T16.setTop (mkF m 529 #[.val (.int p1), .val (.long q2), .second, .val (.int p3), .val (.int p4), .val (.int cc), .val (.int md), .val (.int at_), .val (.int ln), .val (.int ixx), .val (.int pt), .val (.int po), .val (.ref b1), .val (.int (F_esc cc ln y1 y2 y3 y4 y5)), .val (.int (F_sl cc)), .val (.int (0 : Int32))] [])) _
                  refine Own.go (fun t k => XS.iconst X16.here hx rfl (hb hby at_529) k) ?_
                  show Own.Fin p e below (T16.setTop (mkF m 530 #[.val (.int p1), .val (.long q2), .second, .val (.int p3), .val (.int p4), .val (.int cc), .val (.int md), .val (.int at_), .val (.int ln), .val (.int ixx), .val (.int pt), .val (.int po), .val (.ref b1), .val (.int (F_esc cc ln y1 y2 y3 y4 y5)), .val (.int (F_sl cc)), .val (.int (0 : Int32))] [(.int (1 : Int32))])) _
                  refine Own.go (fun t k => XS.goto X16.here hx rfl (pc0 := 530) (pc' := 534) rfl (hb hby at_530) (by decide) (by decide) k) ?_
                  show Own.Fin p e below (T16.setTop (mkF m 534 #[.val (.int p1), .val (.long q2), .second, .val (.int p3), .val (.int p4), .val (.int cc), .val (.int md), .val (.int at_), .val (.int ln), .val (.int ixx), .val (.int pt), .val (.int po), .val (.ref b1), .val (.int (F_esc cc ln y1 y2 y3 y4 y5)), .val (.int (F_sl cc)), .val (.int (0 : Int32))] [(.int (1 : Int32))])) _
                  refine Own.retN X16 hx Bd.notSynchronized (t := .boolean) Bd.returns (by simp) (hb hby at_534) (by decide) (by decide) ?_
                  exact ⟨rfl, N16⟩
              · skip
                refine Own.go (fun t k => XS.icmpYes X16.here hx rfl (pc0 := 433) (pc' := 513) rfl (hb hby at_433) rfl (feq hc433_18).2 (by decide) (by decide) k) ?_
                show Own.Fin p e below (T16.setTop (mkF m 513 #[.val (.int p1), .val (.long q2), .second, .val (.int p3), .val (.int p4), .val (.int cc), .val (.int md), .val (.int at_), .val (.int ln), .val (.int ixx), .val (.int pt), .val (.int po), .val (.ref b1), .val (.int (F_esc cc ln y1 y2 y3 y4 y5)), .val (.int (F_sl cc)), .unset] [])) _
                refine Own.go (fun t k => XS.iconst X16.here hx rfl (hb hby at_513) k) ?_
                show Own.Fin p e below (T16.setTop (mkF m 514 #[.val (.int p1), .val (.long q2), .second, .val (.int p3), .val (.int p4), .val (.int cc), .val (.int md), .val (.int at_), .val (.int ln), .val (.int ixx), .val (.int pt), .val (.int po), .val (.ref b1), .val (.int (F_esc cc ln y1 y2 y3 y4 y5)), .val (.int (F_sl cc)), .unset] [(.int (0 : Int32))])) _
                refine Own.go (fun t k => XS.istore X16.here hx rfl (hb hby at_514) rfl (l' := #[.val (.int p1), .val (.long q2), .second, .val (.int p3), .val (.int p4), .val (.int cc), .val (.int md), .val (.int at_), .val (.int ln), .val (.int ixx), .val (.int pt), .val (.int po), .val (.ref b1), .val (.int (F_esc cc ln y1 y2 y3 y4 y5)), .val (.int (F_sl cc)), .val (.int (0 : Int32))]) rfl k) ?_
                show Own.Fin p e below (T16.setTop (mkF m 516 #[.val (.int p1), .val (.long q2), .second, .val (.int p3), .val (.int p4), .val (.int cc), .val (.int md), .val (.int at_), .val (.int ln), .val (.int ixx), .val (.int pt), .val (.int po), .val (.ref b1), .val (.int (F_esc cc ln y1 y2 y3 y4 y5)), .val (.int (F_sl cc)), .val (.int (0 : Int32))] [])) _
                refine Own.go (fun t k => XS.goto X16.here hx rfl (pc0 := 516) (pc' := 522) rfl (hb hby at_516) (by decide) (by decide) k) ?_
                show Own.Fin p e below (T16.setTop (mkF m 522 #[.val (.int p1), .val (.long q2), .second, .val (.int p3), .val (.int p4), .val (.int cc), .val (.int md), .val (.int at_), .val (.int ln), .val (.int ixx), .val (.int pt), .val (.int po), .val (.ref b1), .val (.int (F_esc cc ln y1 y2 y3 y4 y5)), .val (.int (F_sl cc)), .val (.int (0 : Int32))] [])) _
                refine Own.go (fun t k => XS.iload X16.here hx rfl (hb hby at_522) rfl k) ?_
                show Own.Fin p e below (T16.setTop (mkF m 524 #[.val (.int p1), .val (.long q2), .second, .val (.int p3), .val (.int p4), .val (.int cc), .val (.int md), .val (.int at_), .val (.int ln), .val (.int ixx), .val (.int pt), .val (.int po), .val (.ref b1), .val (.int (F_esc cc ln y1 y2 y3 y4 y5)), .val (.int (F_sl cc)), .val (.int (0 : Int32))] [(.int (F_esc cc ln y1 y2 y3 y4 y5))])) _
                refine Own.go (fun t k => XS.iload X16.here hx rfl (hb hby at_524) rfl k) ?_
                show Own.Fin p e below (T16.setTop (mkF m 526 #[.val (.int p1), .val (.long q2), .second, .val (.int p3), .val (.int p4), .val (.int cc), .val (.int md), .val (.int at_), .val (.int ln), .val (.int ixx), .val (.int pt), .val (.int po), .val (.ref b1), .val (.int (F_esc cc ln y1 y2 y3 y4 y5)), .val (.int (F_sl cc)), .val (.int (0 : Int32))] [(.int (0 : Int32)), (.int (F_esc cc ln y1 y2 y3 y4 y5))])) _
                have hc526_37 : (F_esc cc ln y1 y2 y3 y4 y5) = (0 : Int32) := by rw [own_esc _ _ _ _ _ _ _ hc.1]; simp only [F_want, hc390_16, hc426_17, hc433_18, if_true, if_false]
                refine Own.go (fun t k => XS.icmpNo X16.here hx rfl (hb hby at_526) rfl (teq hc526_37).2 k) ?_
                show Own.Fin p e below (T16.setTop (mkF m 529 #[.val (.int p1), .val (.long q2), .second, .val (.int p3), .val (.int p4), .val (.int cc), .val (.int md), .val (.int at_), .val (.int ln), .val (.int ixx), .val (.int pt), .val (.int po), .val (.ref b1), .val (.int (F_esc cc ln y1 y2 y3 y4 y5)), .val (.int (F_sl cc)), .val (.int (0 : Int32))] [])) _
                refine Own.go (fun t k => XS.iconst X16.here hx rfl (hb hby at_529) k) ?_
                show Own.Fin p e below (T16.setTop (mkF m 530 #[.val (.int p1), .val (.long q2), .second, .val (.int p3), .val (.int p4), .val (.int cc), .val (.int md), .val (.int at_), .val (.int ln), .val (.int ixx), .val (.int pt), .val (.int po), .val (.ref b1), .val (.int (F_esc cc ln y1 y2 y3 y4 y5)), .val (.int (F_sl cc)), .val (.int (0 : Int32))] [(.int (1 : Int32))])) _
                refine Own.go (fun t k => XS.goto X16.here hx rfl (pc0 := 530) (pc' := 534) rfl (hb hby at_530) (by decide) (by decide) k) ?_
                show Own.Fin p e below (T16.setTop (mkF m 534 #[.val (.int p1), .val (.long q2), .second, .val (.int p3), .val (.int p4), .val (.int cc), .val (.int md), .val (.int at_), .val (.int ln), .val (.int ixx), .val (.int pt), .val (.int po), .val (.ref b1), .val (.int (F_esc cc ln y1 y2 y3 y4 y5)), .val (.int (F_sl cc)), .val (.int (0 : Int32))] [(.int (1 : Int32))])) _
                refine Own.retN X16 hx Bd.notSynchronized (t := .boolean) Bd.returns (by simp) (hb hby at_534) (by decide) (by decide) ?_
                exact ⟨rfl, N16⟩
            · skip
              refine Own.go (fun t k => XS.icmpYes X16.here hx rfl (pc0 := 426) (pc' := 519) rfl (hb hby at_426) rfl (flt hc426_17).2.1 (by decide) (by decide) k) ?_
              show Own.Fin p e below (T16.setTop (mkF m 519 #[.val (.int p1), .val (.long q2), .second, .val (.int p3), .val (.int p4), .val (.int cc), .val (.int md), .val (.int at_), .val (.int ln), .val (.int ixx), .val (.int pt), .val (.int po), .val (.ref b1), .val (.int (F_esc cc ln y1 y2 y3 y4 y5)), .val (.int (F_sl cc)), .unset] [])) _
              refine Own.go (fun t k => XS.iconst X16.here hx rfl (hb hby at_519) k) ?_
              show Own.Fin p e below (T16.setTop (mkF m 520 #[.val (.int p1), .val (.long q2), .second, .val (.int p3), .val (.int p4), .val (.int cc), .val (.int md), .val (.int at_), .val (.int ln), .val (.int ixx), .val (.int pt), .val (.int po), .val (.ref b1), .val (.int (F_esc cc ln y1 y2 y3 y4 y5)), .val (.int (F_sl cc)), .unset] [(.int (0 : Int32))])) _
              refine Own.go (fun t k => XS.istore X16.here hx rfl (hb hby at_520) rfl (l' := #[.val (.int p1), .val (.long q2), .second, .val (.int p3), .val (.int p4), .val (.int cc), .val (.int md), .val (.int at_), .val (.int ln), .val (.int ixx), .val (.int pt), .val (.int po), .val (.ref b1), .val (.int (F_esc cc ln y1 y2 y3 y4 y5)), .val (.int (F_sl cc)), .val (.int (0 : Int32))]) rfl k) ?_
              show Own.Fin p e below (T16.setTop (mkF m 522 #[.val (.int p1), .val (.long q2), .second, .val (.int p3), .val (.int p4), .val (.int cc), .val (.int md), .val (.int at_), .val (.int ln), .val (.int ixx), .val (.int pt), .val (.int po), .val (.ref b1), .val (.int (F_esc cc ln y1 y2 y3 y4 y5)), .val (.int (F_sl cc)), .val (.int (0 : Int32))] [])) _
              refine Own.go (fun t k => XS.iload X16.here hx rfl (hb hby at_522) rfl k) ?_
              show Own.Fin p e below (T16.setTop (mkF m 524 #[.val (.int p1), .val (.long q2), .second, .val (.int p3), .val (.int p4), .val (.int cc), .val (.int md), .val (.int at_), .val (.int ln), .val (.int ixx), .val (.int pt), .val (.int po), .val (.ref b1), .val (.int (F_esc cc ln y1 y2 y3 y4 y5)), .val (.int (F_sl cc)), .val (.int (0 : Int32))] [(.int (F_esc cc ln y1 y2 y3 y4 y5))])) _
              refine Own.go (fun t k => XS.iload X16.here hx rfl (hb hby at_524) rfl k) ?_
              show Own.Fin p e below (T16.setTop (mkF m 526 #[.val (.int p1), .val (.long q2), .second, .val (.int p3), .val (.int p4), .val (.int cc), .val (.int md), .val (.int at_), .val (.int ln), .val (.int ixx), .val (.int pt), .val (.int po), .val (.ref b1), .val (.int (F_esc cc ln y1 y2 y3 y4 y5)), .val (.int (F_sl cc)), .val (.int (0 : Int32))] [(.int (0 : Int32)), (.int (F_esc cc ln y1 y2 y3 y4 y5))])) _
              have hc526_38 : (F_esc cc ln y1 y2 y3 y4 y5) = (0 : Int32) := by rw [own_esc _ _ _ _ _ _ _ hc.1]; simp only [F_want, hc390_16, hc426_17, if_true, if_false]
              refine Own.go (fun t k => XS.icmpNo X16.here hx rfl (hb hby at_526) rfl (teq hc526_38).2 k) ?_
              show Own.Fin p e below (T16.setTop (mkF m 529 #[.val (.int p1), .val (.long q2), .second, .val (.int p3), .val (.int p4), .val (.int cc), .val (.int md), .val (.int at_), .val (.int ln), .val (.int ixx), .val (.int pt), .val (.int po), .val (.ref b1), .val (.int (F_esc cc ln y1 y2 y3 y4 y5)), .val (.int (F_sl cc)), .val (.int (0 : Int32))] [])) _
              refine Own.go (fun t k => XS.iconst X16.here hx rfl (hb hby at_529) k) ?_
              show Own.Fin p e below (T16.setTop (mkF m 530 #[.val (.int p1), .val (.long q2), .second, .val (.int p3), .val (.int p4), .val (.int cc), .val (.int md), .val (.int at_), .val (.int ln), .val (.int ixx), .val (.int pt), .val (.int po), .val (.ref b1), .val (.int (F_esc cc ln y1 y2 y3 y4 y5)), .val (.int (F_sl cc)), .val (.int (0 : Int32))] [(.int (1 : Int32))])) _
              refine Own.go (fun t k => XS.goto X16.here hx rfl (pc0 := 530) (pc' := 534) rfl (hb hby at_530) (by decide) (by decide) k) ?_
              show Own.Fin p e below (T16.setTop (mkF m 534 #[.val (.int p1), .val (.long q2), .second, .val (.int p3), .val (.int p4), .val (.int cc), .val (.int md), .val (.int at_), .val (.int ln), .val (.int ixx), .val (.int pt), .val (.int po), .val (.ref b1), .val (.int (F_esc cc ln y1 y2 y3 y4 y5)), .val (.int (F_sl cc)), .val (.int (0 : Int32))] [(.int (1 : Int32))])) _
              refine Own.retN X16 hx Bd.notSynchronized (t := .boolean) Bd.returns (by simp) (hb hby at_534) (by decide) (by decide) ?_
              exact ⟨rfl, N16⟩
          · skip
            refine Own.go (fun t k => XS.ifNo X16.here hx rfl (hb hby at_390) rfl ((if0 _ _).trans (feq hc390_16).1) k) ?_
            show Own.Fin p e below (T16.setTop (mkF m 393 #[.val (.int p1), .val (.long q2), .second, .val (.int p3), .val (.int p4), .val (.int cc), .val (.int md), .val (.int at_), .val (.int ln), .val (.int ixx), .val (.int pt), .val (.int po), .val (.ref b1), .val (.int (F_esc cc ln y1 y2 y3 y4 y5)), .val (.int (F_sl cc)), .unset] [])) _
            refine Own.go (fun t k => XS.iload X16.here hx rfl (hb hby at_393) rfl k) ?_
            show Own.Fin p e below (T16.setTop (mkF m 395 #[.val (.int p1), .val (.long q2), .second, .val (.int p3), .val (.int p4), .val (.int cc), .val (.int md), .val (.int at_), .val (.int ln), .val (.int ixx), .val (.int pt), .val (.int po), .val (.ref b1), .val (.int (F_esc cc ln y1 y2 y3 y4 y5)), .val (.int (F_sl cc)), .unset] [(.int ln)])) _
            refine Own.go (fun t k => XS.iconst X16.here hx rfl (hb hby at_395) k) ?_
            show Own.Fin p e below (T16.setTop (mkF m 396 #[.val (.int p1), .val (.long q2), .second, .val (.int p3), .val (.int p4), .val (.int cc), .val (.int md), .val (.int at_), .val (.int ln), .val (.int ixx), .val (.int pt), .val (.int po), .val (.ref b1), .val (.int (F_esc cc ln y1 y2 y3 y4 y5)), .val (.int (F_sl cc)), .unset] [(.int (2 : Int32)), (.int ln)])) _
            by_cases hc396_39 : ln = (2 : Int32)
            · skip
              refine Own.go (fun t k => XS.icmpNo X16.here hx rfl (hb hby at_396) rfl (teq hc396_39).2 k) ?_
              show Own.Fin p e below (T16.setTop (mkF m 399 #[.val (.int p1), .val (.long q2), .second, .val (.int p3), .val (.int p4), .val (.int cc), .val (.int md), .val (.int at_), .val (.int ln), .val (.int ixx), .val (.int pt), .val (.int po), .val (.ref b1), .val (.int (F_esc cc ln y1 y2 y3 y4 y5)), .val (.int (F_sl cc)), .unset] [])) _
              refine Own.go (fun t k => XS.aload X16.here hx rfl (hb hby at_399) rfl rfl k) ?_
              show Own.Fin p e below (T16.setTop (mkF m 401 #[.val (.int p1), .val (.long q2), .second, .val (.int p3), .val (.int p4), .val (.int cc), .val (.int md), .val (.int at_), .val (.int ln), .val (.int ixx), .val (.int pt), .val (.int po), .val (.ref b1), .val (.int (F_esc cc ln y1 y2 y3 y4 y5)), .val (.int (F_sl cc)), .unset] [(.ref b1)])) _
              refine Own.go (fun t k => XS.iload X16.here hx rfl (hb hby at_401) rfl k) ?_
              show Own.Fin p e below (T16.setTop (mkF m 403 #[.val (.int p1), .val (.long q2), .second, .val (.int p3), .val (.int p4), .val (.int cc), .val (.int md), .val (.int at_), .val (.int ln), .val (.int ixx), .val (.int pt), .val (.int po), .val (.ref b1), .val (.int (F_esc cc ln y1 y2 y3 y4 y5)), .val (.int (F_sl cc)), .unset] [(.int at_), (.ref b1)])) _
              refine Own.go (fun t k => XS.iconst X16.here hx rfl (hb hby at_403) k) ?_
              show Own.Fin p e below (T16.setTop (mkF m 404 #[.val (.int p1), .val (.long q2), .second, .val (.int p3), .val (.int p4), .val (.int cc), .val (.int md), .val (.int at_), .val (.int ln), .val (.int ixx), .val (.int pt), .val (.int po), .val (.ref b1), .val (.int (F_esc cc ln y1 y2 y3 y4 y5)), .val (.int (F_sl cc)), .unset] [(.int (1 : Int32)), (.int at_), (.ref b1)])) _
              refine Own.go (fun t k => XS.iadd X16.here hx rfl (hb hby at_404) rfl k) ?_
              show Own.Fin p e below (T16.setTop (mkF m 405 #[.val (.int p1), .val (.long q2), .second, .val (.int p3), .val (.int p4), .val (.int cc), .val (.int md), .val (.int at_), .val (.int ln), .val (.int ixx), .val (.int pt), .val (.int po), .val (.ref b1), .val (.int (F_esc cc ln y1 y2 y3 y4 y5)), .val (.int (F_sl cc)), .unset] [(.int (at_ + (1 : Int32))), (.ref b1)])) _
              refine Own.ldB X16 hx hZ e16 Vj0 (hb hby at_405) (own_at _ 1 1 (by decide) hat (by decide) (by decide)) ?_
              intro u41 hu41
              obtain rfl : y1 = u41 := Value.int.inj (hy1.symm.trans hu41)
              show Own.Fin p e below (T16.setTop (mkF m 406 #[.val (.int p1), .val (.long q2), .second, .val (.int p3), .val (.int p4), .val (.int cc), .val (.int md), .val (.int at_), .val (.int ln), .val (.int ixx), .val (.int pt), .val (.int po), .val (.ref b1), .val (.int (F_esc cc ln y1 y2 y3 y4 y5)), .val (.int (F_sl cc)), .unset] [(.int y1)])) _
              refine Own.go (fun t k => XS.iload X16.here hx rfl (hb hby at_406) rfl k) ?_
              show Own.Fin p e below (T16.setTop (mkF m 408 #[.val (.int p1), .val (.long q2), .second, .val (.int p3), .val (.int p4), .val (.int cc), .val (.int md), .val (.int at_), .val (.int ln), .val (.int ixx), .val (.int pt), .val (.int po), .val (.ref b1), .val (.int (F_esc cc ln y1 y2 y3 y4 y5)), .val (.int (F_sl cc)), .unset] [(.int (F_sl cc)), (.int y1)])) _
              refine Own.go (fun t k => XS.i2b X16.here hx rfl (hb hby at_408) rfl k) ?_
              show Own.Fin p e below (T16.setTop (mkF m 409 #[.val (.int p1), .val (.long q2), .second, .val (.int p3), .val (.int p4), .val (.int cc), .val (.int md), .val (.int at_), .val (.int ln), .val (.int ixx), .val (.int pt), .val (.int po), .val (.ref b1), .val (.int (F_esc cc ln y1 y2 y3 y4 y5)), .val (.int (F_sl cc)), .unset] [(.int (((F_sl cc)).toInt8.toInt32)), (.int y1)])) _
              by_cases hc409_41 : y1 = (((F_sl cc)).toInt8.toInt32)
              · skip
                refine Own.go (fun t k => XS.icmpNo X16.here hx rfl (hb hby at_409) rfl (teq hc409_41).2 k) ?_
                show Own.Fin p e below (T16.setTop (mkF m 412 #[.val (.int p1), .val (.long q2), .second, .val (.int p3), .val (.int p4), .val (.int cc), .val (.int md), .val (.int at_), .val (.int ln), .val (.int ixx), .val (.int pt), .val (.int po), .val (.ref b1), .val (.int (F_esc cc ln y1 y2 y3 y4 y5)), .val (.int (F_sl cc)), .unset] [])) _
                refine Own.go (fun t k => XS.iconst X16.here hx rfl (hb hby at_412) k) ?_
                show Own.Fin p e below (T16.setTop (mkF m 413 #[.val (.int p1), .val (.long q2), .second, .val (.int p3), .val (.int p4), .val (.int cc), .val (.int md), .val (.int at_), .val (.int ln), .val (.int ixx), .val (.int pt), .val (.int po), .val (.ref b1), .val (.int (F_esc cc ln y1 y2 y3 y4 y5)), .val (.int (F_sl cc)), .unset] [(.int (1 : Int32))])) _
                refine Own.go (fun t k => XS.goto X16.here hx rfl (pc0 := 413) (pc' := 417) rfl (hb hby at_413) (by decide) (by decide) k) ?_
                show Own.Fin p e below (T16.setTop (mkF m 417 #[.val (.int p1), .val (.long q2), .second, .val (.int p3), .val (.int p4), .val (.int cc), .val (.int md), .val (.int at_), .val (.int ln), .val (.int ixx), .val (.int pt), .val (.int po), .val (.ref b1), .val (.int (F_esc cc ln y1 y2 y3 y4 y5)), .val (.int (F_sl cc)), .unset] [(.int (1 : Int32))])) _
                refine Own.go (fun t k => XS.istore X16.here hx rfl (hb hby at_417) rfl (l' := #[.val (.int p1), .val (.long q2), .second, .val (.int p3), .val (.int p4), .val (.int cc), .val (.int md), .val (.int at_), .val (.int ln), .val (.int ixx), .val (.int pt), .val (.int po), .val (.ref b1), .val (.int (F_esc cc ln y1 y2 y3 y4 y5)), .val (.int (F_sl cc)), .val (.int (1 : Int32))]) rfl k) ?_
                show Own.Fin p e below (T16.setTop (mkF m 419 #[.val (.int p1), .val (.long q2), .second, .val (.int p3), .val (.int p4), .val (.int cc), .val (.int md), .val (.int at_), .val (.int ln), .val (.int ixx), .val (.int pt), .val (.int po), .val (.ref b1), .val (.int (F_esc cc ln y1 y2 y3 y4 y5)), .val (.int (F_sl cc)), .val (.int (1 : Int32))] [])) _
                refine Own.go (fun t k => XS.goto X16.here hx rfl (pc0 := 419) (pc' := 522) rfl (hb hby at_419) (by decide) (by decide) k) ?_
                show Own.Fin p e below (T16.setTop (mkF m 522 #[.val (.int p1), .val (.long q2), .second, .val (.int p3), .val (.int p4), .val (.int cc), .val (.int md), .val (.int at_), .val (.int ln), .val (.int ixx), .val (.int pt), .val (.int po), .val (.ref b1), .val (.int (F_esc cc ln y1 y2 y3 y4 y5)), .val (.int (F_sl cc)), .val (.int (1 : Int32))] [])) _
                refine Own.go (fun t k => XS.iload X16.here hx rfl (hb hby at_522) rfl k) ?_
                show Own.Fin p e below (T16.setTop (mkF m 524 #[.val (.int p1), .val (.long q2), .second, .val (.int p3), .val (.int p4), .val (.int cc), .val (.int md), .val (.int at_), .val (.int ln), .val (.int ixx), .val (.int pt), .val (.int po), .val (.ref b1), .val (.int (F_esc cc ln y1 y2 y3 y4 y5)), .val (.int (F_sl cc)), .val (.int (1 : Int32))] [(.int (F_esc cc ln y1 y2 y3 y4 y5))])) _
                refine Own.go (fun t k => XS.iload X16.here hx rfl (hb hby at_524) rfl k) ?_
                show Own.Fin p e below (T16.setTop (mkF m 526 #[.val (.int p1), .val (.long q2), .second, .val (.int p3), .val (.int p4), .val (.int cc), .val (.int md), .val (.int at_), .val (.int ln), .val (.int ixx), .val (.int pt), .val (.int po), .val (.ref b1), .val (.int (F_esc cc ln y1 y2 y3 y4 y5)), .val (.int (F_sl cc)), .val (.int (1 : Int32))] [(.int (1 : Int32)), (.int (F_esc cc ln y1 y2 y3 y4 y5))])) _
                have hc526_42 : (F_esc cc ln y1 y2 y3 y4 y5) = (1 : Int32) := by rw [own_esc _ _ _ _ _ _ _ hc.1]; simp only [F_want, hc390_16, hc396_39, hc409_41, if_true, if_false]
                refine Own.go (fun t k => XS.icmpNo X16.here hx rfl (hb hby at_526) rfl (teq hc526_42).2 k) ?_
                show Own.Fin p e below (T16.setTop (mkF m 529 #[.val (.int p1), .val (.long q2), .second, .val (.int p3), .val (.int p4), .val (.int cc), .val (.int md), .val (.int at_), .val (.int ln), .val (.int ixx), .val (.int pt), .val (.int po), .val (.ref b1), .val (.int (F_esc cc ln y1 y2 y3 y4 y5)), .val (.int (F_sl cc)), .val (.int (1 : Int32))] [])) _
                refine Own.go (fun t k => XS.iconst X16.here hx rfl (hb hby at_529) k) ?_
                show Own.Fin p e below (T16.setTop (mkF m 530 #[.val (.int p1), .val (.long q2), .second, .val (.int p3), .val (.int p4), .val (.int cc), .val (.int md), .val (.int at_), .val (.int ln), .val (.int ixx), .val (.int pt), .val (.int po), .val (.ref b1), .val (.int (F_esc cc ln y1 y2 y3 y4 y5)), .val (.int (F_sl cc)), .val (.int (1 : Int32))] [(.int (1 : Int32))])) _
                refine Own.go (fun t k => XS.goto X16.here hx rfl (pc0 := 530) (pc' := 534) rfl (hb hby at_530) (by decide) (by decide) k) ?_
                show Own.Fin p e below (T16.setTop (mkF m 534 #[.val (.int p1), .val (.long q2), .second, .val (.int p3), .val (.int p4), .val (.int cc), .val (.int md), .val (.int at_), .val (.int ln), .val (.int ixx), .val (.int pt), .val (.int po), .val (.ref b1), .val (.int (F_esc cc ln y1 y2 y3 y4 y5)), .val (.int (F_sl cc)), .val (.int (1 : Int32))] [(.int (1 : Int32))])) _
                refine Own.retN X16 hx Bd.notSynchronized (t := .boolean) Bd.returns (by simp) (hb hby at_534) (by decide) (by decide) ?_
                exact ⟨rfl, N16⟩
              · skip
                refine Own.go (fun t k => XS.icmpYes X16.here hx rfl (pc0 := 409) (pc' := 416) rfl (hb hby at_409) rfl (feq hc409_41).2 (by decide) (by decide) k) ?_
                show Own.Fin p e below (T16.setTop (mkF m 416 #[.val (.int p1), .val (.long q2), .second, .val (.int p3), .val (.int p4), .val (.int cc), .val (.int md), .val (.int at_), .val (.int ln), .val (.int ixx), .val (.int pt), .val (.int po), .val (.ref b1), .val (.int (F_esc cc ln y1 y2 y3 y4 y5)), .val (.int (F_sl cc)), .unset] [])) _
                refine Own.go (fun t k => XS.iconst X16.here hx rfl (hb hby at_416) k) ?_
                show Own.Fin p e below (T16.setTop (mkF m 417 #[.val (.int p1), .val (.long q2), .second, .val (.int p3), .val (.int p4), .val (.int cc), .val (.int md), .val (.int at_), .val (.int ln), .val (.int ixx), .val (.int pt), .val (.int po), .val (.ref b1), .val (.int (F_esc cc ln y1 y2 y3 y4 y5)), .val (.int (F_sl cc)), .unset] [(.int (0 : Int32))])) _
                refine Own.go (fun t k => XS.istore X16.here hx rfl (hb hby at_417) rfl (l' := #[.val (.int p1), .val (.long q2), .second, .val (.int p3), .val (.int p4), .val (.int cc), .val (.int md), .val (.int at_), .val (.int ln), .val (.int ixx), .val (.int pt), .val (.int po), .val (.ref b1), .val (.int (F_esc cc ln y1 y2 y3 y4 y5)), .val (.int (F_sl cc)), .val (.int (0 : Int32))]) rfl k) ?_
                show Own.Fin p e below (T16.setTop (mkF m 419 #[.val (.int p1), .val (.long q2), .second, .val (.int p3), .val (.int p4), .val (.int cc), .val (.int md), .val (.int at_), .val (.int ln), .val (.int ixx), .val (.int pt), .val (.int po), .val (.ref b1), .val (.int (F_esc cc ln y1 y2 y3 y4 y5)), .val (.int (F_sl cc)), .val (.int (0 : Int32))] [])) _
                refine Own.go (fun t k => XS.goto X16.here hx rfl (pc0 := 419) (pc' := 522) rfl (hb hby at_419) (by decide) (by decide) k) ?_
                show Own.Fin p e below (T16.setTop (mkF m 522 #[.val (.int p1), .val (.long q2), .second, .val (.int p3), .val (.int p4), .val (.int cc), .val (.int md), .val (.int at_), .val (.int ln), .val (.int ixx), .val (.int pt), .val (.int po), .val (.ref b1), .val (.int (F_esc cc ln y1 y2 y3 y4 y5)), .val (.int (F_sl cc)), .val (.int (0 : Int32))] [])) _
                refine Own.go (fun t k => XS.iload X16.here hx rfl (hb hby at_522) rfl k) ?_
                show Own.Fin p e below (T16.setTop (mkF m 524 #[.val (.int p1), .val (.long q2), .second, .val (.int p3), .val (.int p4), .val (.int cc), .val (.int md), .val (.int at_), .val (.int ln), .val (.int ixx), .val (.int pt), .val (.int po), .val (.ref b1), .val (.int (F_esc cc ln y1 y2 y3 y4 y5)), .val (.int (F_sl cc)), .val (.int (0 : Int32))] [(.int (F_esc cc ln y1 y2 y3 y4 y5))])) _
                refine Own.go (fun t k => XS.iload X16.here hx rfl (hb hby at_524) rfl k) ?_
                show Own.Fin p e below (T16.setTop (mkF m 526 #[.val (.int p1), .val (.long q2), .second, .val (.int p3), .val (.int p4), .val (.int cc), .val (.int md), .val (.int at_), .val (.int ln), .val (.int ixx), .val (.int pt), .val (.int po), .val (.ref b1), .val (.int (F_esc cc ln y1 y2 y3 y4 y5)), .val (.int (F_sl cc)), .val (.int (0 : Int32))] [(.int (0 : Int32)), (.int (F_esc cc ln y1 y2 y3 y4 y5))])) _
                have hc526_43 : (F_esc cc ln y1 y2 y3 y4 y5) = (0 : Int32) := by rw [own_esc _ _ _ _ _ _ _ hc.1]; simp only [F_want, hc390_16, hc396_39, hc409_41, if_true, if_false]
                refine Own.go (fun t k => XS.icmpNo X16.here hx rfl (hb hby at_526) rfl (teq hc526_43).2 k) ?_
                show Own.Fin p e below (T16.setTop (mkF m 529 #[.val (.int p1), .val (.long q2), .second, .val (.int p3), .val (.int p4), .val (.int cc), .val (.int md), .val (.int at_), .val (.int ln), .val (.int ixx), .val (.int pt), .val (.int po), .val (.ref b1), .val (.int (F_esc cc ln y1 y2 y3 y4 y5)), .val (.int (F_sl cc)), .val (.int (0 : Int32))] [])) _
                refine Own.go (fun t k => XS.iconst X16.here hx rfl (hb hby at_529) k) ?_
                show Own.Fin p e below (T16.setTop (mkF m 530 #[.val (.int p1), .val (.long q2), .second, .val (.int p3), .val (.int p4), .val (.int cc), .val (.int md), .val (.int at_), .val (.int ln), .val (.int ixx), .val (.int pt), .val (.int po), .val (.ref b1), .val (.int (F_esc cc ln y1 y2 y3 y4 y5)), .val (.int (F_sl cc)), .val (.int (0 : Int32))] [(.int (1 : Int32))])) _
                refine Own.go (fun t k => XS.goto X16.here hx rfl (pc0 := 530) (pc' := 534) rfl (hb hby at_530) (by decide) (by decide) k) ?_
                show Own.Fin p e below (T16.setTop (mkF m 534 #[.val (.int p1), .val (.long q2), .second, .val (.int p3), .val (.int p4), .val (.int cc), .val (.int md), .val (.int at_), .val (.int ln), .val (.int ixx), .val (.int pt), .val (.int po), .val (.ref b1), .val (.int (F_esc cc ln y1 y2 y3 y4 y5)), .val (.int (F_sl cc)), .val (.int (0 : Int32))] [(.int (1 : Int32))])) _
                refine Own.retN X16 hx Bd.notSynchronized (t := .boolean) Bd.returns (by simp) (hb hby at_534) (by decide) (by decide) ?_
                exact ⟨rfl, N16⟩
            · skip
              refine Own.go (fun t k => XS.icmpYes X16.here hx rfl (pc0 := 396) (pc' := 416) rfl (hb hby at_396) rfl (feq hc396_39).2 (by decide) (by decide) k) ?_
              show Own.Fin p e below (T16.setTop (mkF m 416 #[.val (.int p1), .val (.long q2), .second, .val (.int p3), .val (.int p4), .val (.int cc), .val (.int md), .val (.int at_), .val (.int ln), .val (.int ixx), .val (.int pt), .val (.int po), .val (.ref b1), .val (.int (F_esc cc ln y1 y2 y3 y4 y5)), .val (.int (F_sl cc)), .unset] [])) _
              refine Own.go (fun t k => XS.iconst X16.here hx rfl (hb hby at_416) k) ?_
              show Own.Fin p e below (T16.setTop (mkF m 417 #[.val (.int p1), .val (.long q2), .second, .val (.int p3), .val (.int p4), .val (.int cc), .val (.int md), .val (.int at_), .val (.int ln), .val (.int ixx), .val (.int pt), .val (.int po), .val (.ref b1), .val (.int (F_esc cc ln y1 y2 y3 y4 y5)), .val (.int (F_sl cc)), .unset] [(.int (0 : Int32))])) _
              refine Own.go (fun t k => XS.istore X16.here hx rfl (hb hby at_417) rfl (l' := #[.val (.int p1), .val (.long q2), .second, .val (.int p3), .val (.int p4), .val (.int cc), .val (.int md), .val (.int at_), .val (.int ln), .val (.int ixx), .val (.int pt), .val (.int po), .val (.ref b1), .val (.int (F_esc cc ln y1 y2 y3 y4 y5)), .val (.int (F_sl cc)), .val (.int (0 : Int32))]) rfl k) ?_
              show Own.Fin p e below (T16.setTop (mkF m 419 #[.val (.int p1), .val (.long q2), .second, .val (.int p3), .val (.int p4), .val (.int cc), .val (.int md), .val (.int at_), .val (.int ln), .val (.int ixx), .val (.int pt), .val (.int po), .val (.ref b1), .val (.int (F_esc cc ln y1 y2 y3 y4 y5)), .val (.int (F_sl cc)), .val (.int (0 : Int32))] [])) _
              refine Own.go (fun t k => XS.goto X16.here hx rfl (pc0 := 419) (pc' := 522) rfl (hb hby at_419) (by decide) (by decide) k) ?_
              show Own.Fin p e below (T16.setTop (mkF m 522 #[.val (.int p1), .val (.long q2), .second, .val (.int p3), .val (.int p4), .val (.int cc), .val (.int md), .val (.int at_), .val (.int ln), .val (.int ixx), .val (.int pt), .val (.int po), .val (.ref b1), .val (.int (F_esc cc ln y1 y2 y3 y4 y5)), .val (.int (F_sl cc)), .val (.int (0 : Int32))] [])) _
              refine Own.go (fun t k => XS.iload X16.here hx rfl (hb hby at_522) rfl k) ?_
              show Own.Fin p e below (T16.setTop (mkF m 524 #[.val (.int p1), .val (.long q2), .second, .val (.int p3), .val (.int p4), .val (.int cc), .val (.int md), .val (.int at_), .val (.int ln), .val (.int ixx), .val (.int pt), .val (.int po), .val (.ref b1), .val (.int (F_esc cc ln y1 y2 y3 y4 y5)), .val (.int (F_sl cc)), .val (.int (0 : Int32))] [(.int (F_esc cc ln y1 y2 y3 y4 y5))])) _
              refine Own.go (fun t k => XS.iload X16.here hx rfl (hb hby at_524) rfl k) ?_
              show Own.Fin p e below (T16.setTop (mkF m 526 #[.val (.int p1), .val (.long q2), .second, .val (.int p3), .val (.int p4), .val (.int cc), .val (.int md), .val (.int at_), .val (.int ln), .val (.int ixx), .val (.int pt), .val (.int po), .val (.ref b1), .val (.int (F_esc cc ln y1 y2 y3 y4 y5)), .val (.int (F_sl cc)), .val (.int (0 : Int32))] [(.int (0 : Int32)), (.int (F_esc cc ln y1 y2 y3 y4 y5))])) _
              have hc526_44 : (F_esc cc ln y1 y2 y3 y4 y5) = (0 : Int32) := by rw [own_esc _ _ _ _ _ _ _ hc.1]; simp only [F_want, hc390_16, hc396_39, if_true, if_false]
              refine Own.go (fun t k => XS.icmpNo X16.here hx rfl (hb hby at_526) rfl (teq hc526_44).2 k) ?_
              show Own.Fin p e below (T16.setTop (mkF m 529 #[.val (.int p1), .val (.long q2), .second, .val (.int p3), .val (.int p4), .val (.int cc), .val (.int md), .val (.int at_), .val (.int ln), .val (.int ixx), .val (.int pt), .val (.int po), .val (.ref b1), .val (.int (F_esc cc ln y1 y2 y3 y4 y5)), .val (.int (F_sl cc)), .val (.int (0 : Int32))] [])) _
              refine Own.go (fun t k => XS.iconst X16.here hx rfl (hb hby at_529) k) ?_
              show Own.Fin p e below (T16.setTop (mkF m 530 #[.val (.int p1), .val (.long q2), .second, .val (.int p3), .val (.int p4), .val (.int cc), .val (.int md), .val (.int at_), .val (.int ln), .val (.int ixx), .val (.int pt), .val (.int po), .val (.ref b1), .val (.int (F_esc cc ln y1 y2 y3 y4 y5)), .val (.int (F_sl cc)), .val (.int (0 : Int32))] [(.int (1 : Int32))])) _
              refine Own.go (fun t k => XS.goto X16.here hx rfl (pc0 := 530) (pc' := 534) rfl (hb hby at_530) (by decide) (by decide) k) ?_
              show Own.Fin p e below (T16.setTop (mkF m 534 #[.val (.int p1), .val (.long q2), .second, .val (.int p3), .val (.int p4), .val (.int cc), .val (.int md), .val (.int at_), .val (.int ln), .val (.int ixx), .val (.int pt), .val (.int po), .val (.ref b1), .val (.int (F_esc cc ln y1 y2 y3 y4 y5)), .val (.int (F_sl cc)), .val (.int (0 : Int32))] [(.int (1 : Int32))])) _
              refine Own.retN X16 hx Bd.notSynchronized (t := .boolean) Bd.returns (by simp) (hb hby at_534) (by decide) (by decide) ?_
              exact ⟨rfl, N16⟩
        show Own.Fin p e below (Tj.setTop (mkF m 354 #[.val (.int p1), .val (.long q2), .second, .val (.int p3), .val (.int p4), .val (.int cc), .val (.int md), .val (.int at_), .val (.int ln), .val (.int ixx), .val (.int pt), .val (.int po), .val (.ref b1), .unset, .unset, .unset] [])) _
        refine Own.go (fun t k => XS.iload Xj.here hx rfl (hb hby at_354) rfl k) ?_
        show Own.Fin p e below (Tj.setTop (mkF m 356 #[.val (.int p1), .val (.long q2), .second, .val (.int p3), .val (.int p4), .val (.int cc), .val (.int md), .val (.int at_), .val (.int ln), .val (.int ixx), .val (.int pt), .val (.int po), .val (.ref b1), .unset, .unset, .unset] [(.int pt)])) _
        by_cases hc356_45 : pt = (0 : Int32)
        · skip
          refine Own.go (fun t k => XS.ifYes Xj.here hx rfl (pc0 := 356) (pc' := 367) rfl (hb hby at_356) rfl ((if0 _ _).trans (teq hc356_45).1) (by decide) (by decide) k) ?_
          show Own.Fin p e below (Tj.setTop (mkF m 367 #[.val (.int p1), .val (.long q2), .second, .val (.int p3), .val (.int p4), .val (.int cc), .val (.int md), .val (.int at_), .val (.int ln), .val (.int ixx), .val (.int pt), .val (.int po), .val (.ref b1), .unset, .unset, .unset] [])) _
          exact j367 _ _ _ _ Xj ej Nj Zj Oj Vj0 hlj0 
        · skip
          refine Own.go (fun t k => XS.ifNo Xj.here hx rfl (hb hby at_356) rfl ((if0 _ _).trans (feq hc356_45).1) k) ?_
          show Own.Fin p e below (Tj.setTop (mkF m 359 #[.val (.int p1), .val (.long q2), .second, .val (.int p3), .val (.int p4), .val (.int cc), .val (.int md), .val (.int at_), .val (.int ln), .val (.int ixx), .val (.int pt), .val (.int po), .val (.ref b1), .unset, .unset, .unset] [])) _
          refine Own.go (fun t k => XS.aload Xj.here hx rfl (hb hby at_359) rfl rfl k) ?_
          show Own.Fin p e below (Tj.setTop (mkF m 361 #[.val (.int p1), .val (.long q2), .second, .val (.int p3), .val (.int p4), .val (.int cc), .val (.int md), .val (.int at_), .val (.int ln), .val (.int ixx), .val (.int pt), .val (.int po), .val (.ref b1), .unset, .unset, .unset] [(.ref b1)])) _
          refine Own.go (fun t k => XS.iload Xj.here hx rfl (hb hby at_361) rfl k) ?_
          show Own.Fin p e below (Tj.setTop (mkF m 363 #[.val (.int p1), .val (.long q2), .second, .val (.int p3), .val (.int p4), .val (.int cc), .val (.int md), .val (.int at_), .val (.int ln), .val (.int ixx), .val (.int pt), .val (.int po), .val (.ref b1), .unset, .unset, .unset] [(.int po), (.ref b1)])) _
          refine Own.go (fun t k => XS.iload Xj.here hx rfl (hb hby at_363) rfl k) ?_
          show Own.Fin p e below (Tj.setTop (mkF m 365 #[.val (.int p1), .val (.long q2), .second, .val (.int p3), .val (.int p4), .val (.int cc), .val (.int md), .val (.int at_), .val (.int ln), .val (.int ixx), .val (.int pt), .val (.int po), .val (.ref b1), .unset, .unset, .unset] [(.int p4), (.int po), (.ref b1)])) _
          refine Own.go (fun t k => XS.i2b Xj.here hx rfl (hb hby at_365) rfl k) ?_
          show Own.Fin p e below (Tj.setTop (mkF m 366 #[.val (.int p1), .val (.long q2), .second, .val (.int p3), .val (.int p4), .val (.int cc), .val (.int md), .val (.int at_), .val (.int ln), .val (.int ixx), .val (.int pt), .val (.int po), .val (.ref b1), .unset, .unset, .unset] [(.int ((p4).toInt8.toInt32)), (.int po), (.ref b1)])) _
          refine Own.stB Xj hx hZ ej Vj0 (hb hby at_366) hps _ rfl (Nat.lt_of_lt_of_eq (Own.clamp_lt (n := 12) hps (by decide)) hlj0.symm) ?_
          intro T47 h47 X47 e47 W47 V47
          have N47 := Fr.snoc X47 Nj ge1
          have Z47 : n0 ≤ h47.size := by rw [W47.size]; exact Zj
          have O47 := Oj.wr W47 ge1
          have hl47 := (List.length_set (as := vj0) (i := (po).toNatClampNeg) (a := (.int (nar .byte ((p4).toInt8.toInt32))))).trans hlj0
          generalize hvs47 : List.set _ _ _ = vs47 at V47 hl47
          show Own.Fin p e below (T47.setTop (mkF m 367 #[.val (.int p1), .val (.long q2), .second, .val (.int p3), .val (.int p4), .val (.int cc), .val (.int md), .val (.int at_), .val (.int ln), .val (.int ixx), .val (.int pt), .val (.int po), .val (.ref b1), .unset, .unset, .unset] [])) _
          exact j367 _ _ _ _ X47 e47 N47 Z47 O47 V47 hl47 
      refine Own.go (fun t k => XS.iload X14.here hx rfl (hb hby at_216) rfl k) ?_
      show Own.Fin p e below (T14.setTop (mkF m 218 #[.val (.int p1), .val (.long q2), .second, .val (.int p3), .val (.int p4), .val (.int cc), .val (.int md), .val (.int at_), .val (.int ln), .val (.int ixx), .val (.int pt), .val (.int po), .val (.ref b1), .unset, .unset, .unset] [(.int md)])) _
      refine Own.go (fun t k => XS.iconst X14.here hx rfl (hb hby at_218) k) ?_
      show Own.Fin p e below (T14.setTop (mkF m 219 #[.val (.int p1), .val (.long q2), .second, .val (.int p3), .val (.int p4), .val (.int cc), .val (.int md), .val (.int at_), .val (.int ln), .val (.int ixx), .val (.int pt), .val (.int po), .val (.ref b1), .unset, .unset, .unset] [(.int (1 : Int32)), (.int md)])) _
      by_cases hc219_47 : md = (1 : Int32)
      · skip
        refine Own.go (fun t k => XS.icmpYes X14.here hx rfl (pc0 := 219) (pc' := 228) rfl (hb hby at_219) rfl (teq hc219_47).1 (by decide) (by decide) k) ?_
        show Own.Fin p e below (T14.setTop (mkF m 228 #[.val (.int p1), .val (.long q2), .second, .val (.int p3), .val (.int p4), .val (.int cc), .val (.int md), .val (.int at_), .val (.int ln), .val (.int ixx), .val (.int pt), .val (.int po), .val (.ref b1), .unset, .unset, .unset] [])) _
        refine Own.go (fun t k => XS.aload X14.here hx rfl (hb hby at_228) rfl rfl k) ?_
        show Own.Fin p e below (T14.setTop (mkF m 230 #[.val (.int p1), .val (.long q2), .second, .val (.int p3), .val (.int p4), .val (.int cc), .val (.int md), .val (.int at_), .val (.int ln), .val (.int ixx), .val (.int pt), .val (.int po), .val (.ref b1), .unset, .unset, .unset] [(.ref b1)])) _
        refine Own.go (fun t k => XS.iload X14.here hx rfl (hb hby at_230) rfl k) ?_
        show Own.Fin p e below (T14.setTop (mkF m 232 #[.val (.int p1), .val (.long q2), .second, .val (.int p3), .val (.int p4), .val (.int cc), .val (.int md), .val (.int at_), .val (.int ln), .val (.int ixx), .val (.int pt), .val (.int po), .val (.ref b1), .unset, .unset, .unset] [(.int at_), (.ref b1)])) _
        refine Own.go (fun t k => XS.iconst X14.here hx rfl (hb hby at_232) k) ?_
        show Own.Fin p e below (T14.setTop (mkF m 233 #[.val (.int p1), .val (.long q2), .second, .val (.int p3), .val (.int p4), .val (.int cc), .val (.int md), .val (.int at_), .val (.int ln), .val (.int ixx), .val (.int pt), .val (.int po), .val (.ref b1), .unset, .unset, .unset] [(.int (1 : Int32)), (.int at_), (.ref b1)])) _
        refine Own.go (fun t k => XS.iadd X14.here hx rfl (hb hby at_233) rfl k) ?_
        show Own.Fin p e below (T14.setTop (mkF m 234 #[.val (.int p1), .val (.long q2), .second, .val (.int p3), .val (.int p4), .val (.int cc), .val (.int md), .val (.int at_), .val (.int ln), .val (.int ixx), .val (.int pt), .val (.int po), .val (.ref b1), .unset, .unset, .unset] [(.int (at_ + (1 : Int32))), (.ref b1)])) _
        refine Own.go (fun t k => XS.bipush X14.here hx rfl (hb hby at_234) k) ?_
        show Own.Fin p e below (T14.setTop (mkF m 236 #[.val (.int p1), .val (.long q2), .second, .val (.int p3), .val (.int p4), .val (.int cc), .val (.int md), .val (.int at_), .val (.int ln), .val (.int ixx), .val (.int pt), .val (.int po), .val (.ref b1), .unset, .unset, .unset] [(.int (117 : Int32)), (.int (at_ + (1 : Int32))), (.ref b1)])) _
        refine Own.stB X14 hx hZ e14 V14 (hb hby at_236) (own_at _ 1 1 (by decide) hat (by decide) (by decide)) _ rfl (Nat.lt_of_lt_of_eq (Own.clamp_lt (n := 12) (own_at _ 1 1 (by decide) hat (by decide) (by decide)) (by decide)) hl14.symm) ?_
        intro T49 h49 X49 e49 W49 V49
        have N49 := Fr.snoc X49 N14 ge1
        have Z49 : n0 ≤ h49.size := by rw [W49.size]; exact Z14
        have O49 := O14.wr W49 ge1
        have hl49 := (List.length_set (as := vs14) (i := ((at_ + (1 : Int32))).toNatClampNeg) (a := (.int (nar .byte (117 : Int32))))).trans hl14
        generalize hvs49 : List.set _ _ _ = vs49 at V49 hl49
        show Own.Fin p e below (T49.setTop (mkF m 237 #[.val (.int p1), .val (.long q2), .second, .val (.int p3), .val (.int p4), .val (.int cc), .val (.int md), .val (.int at_), .val (.int ln), .val (.int ixx), .val (.int pt), .val (.int po), .val (.ref b1), .unset, .unset, .unset] [])) _
        refine Own.go (fun t k => XS.aload X49.here hx rfl (hb hby at_237) rfl rfl k) ?_
        show Own.Fin p e below (T49.setTop (mkF m 239 #[.val (.int p1), .val (.long q2), .second, .val (.int p3), .val (.int p4), .val (.int cc), .val (.int md), .val (.int at_), .val (.int ln), .val (.int ixx), .val (.int pt), .val (.int po), .val (.ref b1), .unset, .unset, .unset] [(.ref b1)])) _
        refine Own.go (fun t k => XS.iload X49.here hx rfl (hb hby at_239) rfl k) ?_
        show Own.Fin p e below (T49.setTop (mkF m 241 #[.val (.int p1), .val (.long q2), .second, .val (.int p3), .val (.int p4), .val (.int cc), .val (.int md), .val (.int at_), .val (.int ln), .val (.int ixx), .val (.int pt), .val (.int po), .val (.ref b1), .unset, .unset, .unset] [(.int at_), (.ref b1)])) _
        refine Own.go (fun t k => XS.iconst X49.here hx rfl (hb hby at_241) k) ?_
        show Own.Fin p e below (T49.setTop (mkF m 242 #[.val (.int p1), .val (.long q2), .second, .val (.int p3), .val (.int p4), .val (.int cc), .val (.int md), .val (.int at_), .val (.int ln), .val (.int ixx), .val (.int pt), .val (.int po), .val (.ref b1), .unset, .unset, .unset] [(.int (2 : Int32)), (.int at_), (.ref b1)])) _
        refine Own.go (fun t k => XS.iadd X49.here hx rfl (hb hby at_242) rfl k) ?_
        show Own.Fin p e below (T49.setTop (mkF m 243 #[.val (.int p1), .val (.long q2), .second, .val (.int p3), .val (.int p4), .val (.int cc), .val (.int md), .val (.int at_), .val (.int ln), .val (.int ixx), .val (.int pt), .val (.int po), .val (.ref b1), .unset, .unset, .unset] [(.int (at_ + (2 : Int32))), (.ref b1)])) _
        refine Own.go (fun t k => XS.bipush X49.here hx rfl (hb hby at_243) k) ?_
        show Own.Fin p e below (T49.setTop (mkF m 245 #[.val (.int p1), .val (.long q2), .second, .val (.int p3), .val (.int p4), .val (.int cc), .val (.int md), .val (.int at_), .val (.int ln), .val (.int ixx), .val (.int pt), .val (.int po), .val (.ref b1), .unset, .unset, .unset] [(.int (48 : Int32)), (.int (at_ + (2 : Int32))), (.ref b1)])) _
        refine Own.stB X49 hx hZ e49 V49 (hb hby at_245) (own_at _ 2 2 (by decide) hat (by decide) (by decide)) _ rfl (Nat.lt_of_lt_of_eq (Own.clamp_lt (n := 12) (own_at _ 2 2 (by decide) hat (by decide) (by decide)) (by decide)) hl49.symm) ?_
        intro T50 h50 X50 e50 W50 V50
        have N50 := Fr.snoc X50 N49 ge1
        have Z50 : n0 ≤ h50.size := by rw [W50.size]; exact Z49
        have O50 := O49.wr W50 ge1
        have hl50 := (List.length_set (as := vs49) (i := ((at_ + (2 : Int32))).toNatClampNeg) (a := (.int (nar .byte (48 : Int32))))).trans hl49
        generalize hvs50 : List.set _ _ _ = vs50 at V50 hl50
        show Own.Fin p e below (T50.setTop (mkF m 246 #[.val (.int p1), .val (.long q2), .second, .val (.int p3), .val (.int p4), .val (.int cc), .val (.int md), .val (.int at_), .val (.int ln), .val (.int ixx), .val (.int pt), .val (.int po), .val (.ref b1), .unset, .unset, .unset] [])) _
        refine Own.go (fun t k => XS.aload X50.here hx rfl (hb hby at_246) rfl rfl k) ?_
        show Own.Fin p e below (T50.setTop (mkF m 248 #[.val (.int p1), .val (.long q2), .second, .val (.int p3), .val (.int p4), .val (.int cc), .val (.int md), .val (.int at_), .val (.int ln), .val (.int ixx), .val (.int pt), .val (.int po), .val (.ref b1), .unset, .unset, .unset] [(.ref b1)])) _
        refine Own.go (fun t k => XS.iload X50.here hx rfl (hb hby at_248) rfl k) ?_
        show Own.Fin p e below (T50.setTop (mkF m 250 #[.val (.int p1), .val (.long q2), .second, .val (.int p3), .val (.int p4), .val (.int cc), .val (.int md), .val (.int at_), .val (.int ln), .val (.int ixx), .val (.int pt), .val (.int po), .val (.ref b1), .unset, .unset, .unset] [(.int at_), (.ref b1)])) _
        refine Own.go (fun t k => XS.iconst X50.here hx rfl (hb hby at_250) k) ?_
        show Own.Fin p e below (T50.setTop (mkF m 251 #[.val (.int p1), .val (.long q2), .second, .val (.int p3), .val (.int p4), .val (.int cc), .val (.int md), .val (.int at_), .val (.int ln), .val (.int ixx), .val (.int pt), .val (.int po), .val (.ref b1), .unset, .unset, .unset] [(.int (3 : Int32)), (.int at_), (.ref b1)])) _
        refine Own.go (fun t k => XS.iadd X50.here hx rfl (hb hby at_251) rfl k) ?_
        show Own.Fin p e below (T50.setTop (mkF m 252 #[.val (.int p1), .val (.long q2), .second, .val (.int p3), .val (.int p4), .val (.int cc), .val (.int md), .val (.int at_), .val (.int ln), .val (.int ixx), .val (.int pt), .val (.int po), .val (.ref b1), .unset, .unset, .unset] [(.int (at_ + (3 : Int32))), (.ref b1)])) _
        refine Own.go (fun t k => XS.bipush X50.here hx rfl (hb hby at_252) k) ?_
        show Own.Fin p e below (T50.setTop (mkF m 254 #[.val (.int p1), .val (.long q2), .second, .val (.int p3), .val (.int p4), .val (.int cc), .val (.int md), .val (.int at_), .val (.int ln), .val (.int ixx), .val (.int pt), .val (.int po), .val (.ref b1), .unset, .unset, .unset] [(.int (48 : Int32)), (.int (at_ + (3 : Int32))), (.ref b1)])) _
        refine Own.stB X50 hx hZ e50 V50 (hb hby at_254) (own_at _ 3 3 (by decide) hat (by decide) (by decide)) _ rfl (Nat.lt_of_lt_of_eq (Own.clamp_lt (n := 12) (own_at _ 3 3 (by decide) hat (by decide) (by decide)) (by decide)) hl50.symm) ?_
        intro T51 h51 X51 e51 W51 V51
        have N51 := Fr.snoc X51 N50 ge1
        have Z51 : n0 ≤ h51.size := by rw [W51.size]; exact Z50
        have O51 := O50.wr W51 ge1
        have hl51 := (List.length_set (as := vs50) (i := ((at_ + (3 : Int32))).toNatClampNeg) (a := (.int (nar .byte (48 : Int32))))).trans hl50
        generalize hvs51 : List.set _ _ _ = vs51 at V51 hl51
        show Own.Fin p e below (T51.setTop (mkF m 255 #[.val (.int p1), .val (.long q2), .second, .val (.int p3), .val (.int p4), .val (.int cc), .val (.int md), .val (.int at_), .val (.int ln), .val (.int ixx), .val (.int pt), .val (.int po), .val (.ref b1), .unset, .unset, .unset] [])) _
        refine Own.go (fun t k => XS.iload X51.here hx rfl (hb hby at_255) rfl k) ?_
        show Own.Fin p e below (T51.setTop (mkF m 257 #[.val (.int p1), .val (.long q2), .second, .val (.int p3), .val (.int p4), .val (.int cc), .val (.int md), .val (.int at_), .val (.int ln), .val (.int ixx), .val (.int pt), .val (.int po), .val (.ref b1), .unset, .unset, .unset] [(.int md)])) _
        refine Own.go (fun t k => XS.iconst X51.here hx rfl (hb hby at_257) k) ?_
        show Own.Fin p e below (T51.setTop (mkF m 258 #[.val (.int p1), .val (.long q2), .second, .val (.int p3), .val (.int p4), .val (.int cc), .val (.int md), .val (.int at_), .val (.int ln), .val (.int ixx), .val (.int pt), .val (.int po), .val (.ref b1), .unset, .unset, .unset] [(.int (1 : Int32)), (.int md)])) _
        by_cases hc258_51 : md = (1 : Int32)
        · skip
          refine Own.go (fun t k => XS.icmpNo X51.here hx rfl (hb hby at_258) rfl (teq hc258_51).2 k) ?_
          show Own.Fin p e below (T51.setTop (mkF m 261 #[.val (.int p1), .val (.long q2), .second, .val (.int p3), .val (.int p4), .val (.int cc), .val (.int md), .val (.int at_), .val (.int ln), .val (.int ixx), .val (.int pt), .val (.int po), .val (.ref b1), .unset, .unset, .unset] [])) _
          refine Own.go (fun t k => XS.aload X51.here hx rfl (hb hby at_261) rfl rfl k) ?_
          show Own.Fin p e below (T51.setTop (mkF m 263 #[.val (.int p1), .val (.long q2), .second, .val (.int p3), .val (.int p4), .val (.int cc), .val (.int md), .val (.int at_), .val (.int ln), .val (.int ixx), .val (.int pt), .val (.int po), .val (.ref b1), .unset, .unset, .unset] [(.ref b1)])) _
          refine Own.go (fun t k => XS.iload X51.here hx rfl (hb hby at_263) rfl k) ?_
          show Own.Fin p e below (T51.setTop (mkF m 265 #[.val (.int p1), .val (.long q2), .second, .val (.int p3), .val (.int p4), .val (.int cc), .val (.int md), .val (.int at_), .val (.int ln), .val (.int ixx), .val (.int pt), .val (.int po), .val (.ref b1), .unset, .unset, .unset] [(.int at_), (.ref b1)])) _
          refine Own.go (fun t k => XS.iconst X51.here hx rfl (hb hby at_265) k) ?_
          show Own.Fin p e below (T51.setTop (mkF m 266 #[.val (.int p1), .val (.long q2), .second, .val (.int p3), .val (.int p4), .val (.int cc), .val (.int md), .val (.int at_), .val (.int ln), .val (.int ixx), .val (.int pt), .val (.int po), .val (.ref b1), .unset, .unset, .unset] [(.int (4 : Int32)), (.int at_), (.ref b1)])) _
          refine Own.go (fun t k => XS.iadd X51.here hx rfl (hb hby at_266) rfl k) ?_
          show Own.Fin p e below (T51.setTop (mkF m 267 #[.val (.int p1), .val (.long q2), .second, .val (.int p3), .val (.int p4), .val (.int cc), .val (.int md), .val (.int at_), .val (.int ln), .val (.int ixx), .val (.int pt), .val (.int po), .val (.ref b1), .unset, .unset, .unset] [(.int (at_ + (4 : Int32))), (.ref b1)])) _
          refine Own.go (fun t k => XS.iload X51.here hx rfl (hb hby at_267) rfl k) ?_
          show Own.Fin p e below (T51.setTop (mkF m 269 #[.val (.int p1), .val (.long q2), .second, .val (.int p3), .val (.int p4), .val (.int cc), .val (.int md), .val (.int at_), .val (.int ln), .val (.int ixx), .val (.int pt), .val (.int po), .val (.ref b1), .unset, .unset, .unset] [(.int cc), (.int (at_ + (4 : Int32))), (.ref b1)])) _
          refine Own.go (fun t k => XS.iconst X51.here hx rfl (hb hby at_269) k) ?_
          show Own.Fin p e below (T51.setTop (mkF m 270 #[.val (.int p1), .val (.long q2), .second, .val (.int p3), .val (.int p4), .val (.int cc), .val (.int md), .val (.int at_), .val (.int ln), .val (.int ixx), .val (.int pt), .val (.int po), .val (.ref b1), .unset, .unset, .unset] [(.int (4 : Int32)), (.int cc), (.int (at_ + (4 : Int32))), (.ref b1)])) _
          refine Own.go (fun t k => XS.ishr X51.here hx rfl (hb hby at_270) rfl k) ?_
          show Own.Fin p e below (T51.setTop (mkF m 271 #[.val (.int p1), .val (.long q2), .second, .val (.int p3), .val (.int p4), .val (.int cc), .val (.int md), .val (.int at_), .val (.int ln), .val (.int ixx), .val (.int pt), .val (.int po), .val (.ref b1), .unset, .unset, .unset] [(.int ((cc >>> ((4 : Int32) &&& 31)))), (.int (at_ + (4 : Int32))), (.ref b1)])) _
          refine Own.go (fun t k => XS.bipush X51.here hx rfl (hb hby at_271) k) ?_
          show Own.Fin p e below (T51.setTop (mkF m 273 #[.val (.int p1), .val (.long q2), .second, .val (.int p3), .val (.int p4), .val (.int cc), .val (.int md), .val (.int at_), .val (.int ln), .val (.int ixx), .val (.int pt), .val (.int po), .val (.ref b1), .unset, .unset, .unset] [(.int (15 : Int32)), (.int ((cc >>> ((4 : Int32) &&& 31)))), (.int (at_ + (4 : Int32))), (.ref b1)])) _
          refine Own.go (fun t k => XS.iand X51.here hx rfl (hb hby at_273) rfl k) ?_
          show Own.Fin p e below (T51.setTop (mkF m 274 #[.val (.int p1), .val (.long q2), .second, .val (.int p3), .val (.int p4), .val (.int cc), .val (.int md), .val (.int at_), .val (.int ln), .val (.int ixx), .val (.int pt), .val (.int po), .val (.ref b1), .unset, .unset, .unset] [(.int (((cc >>> ((4 : Int32) &&& 31))) &&& (15 : Int32))), (.int (at_ + (4 : Int32))), (.ref b1)])) _
          refine Own.cS X51 hx hZ hown (hw _ (List.mem_of_getElem? (i := 2) rfl)) (hw _ (List.mem_of_getElem? (i := 3) rfl)) (hw _ (List.mem_of_getElem? (i := 4) rfl)) (hw _ (List.mem_of_getElem? (i := 5) rfl)) (by decide) (rm1 l Z a0 hw [] (((cc >>> ((4 : Int32) &&& 31))) &&& (15 : Int32)) h51 n0 Z51 ) (by decide) (W := 2) (by decide) (argsL := [(.int (((cc >>> ((4 : Int32) &&& 31))) &&& (15 : Int32)))]) (rest := [(.int (at_ + (4 : Int32))), (.ref b1)]) (by rw [hml]; rfl) (lenOf pd_1 rfl) rfl (Nat.le_of_eq rfl) (hb hby at_274) e51 (by decide) (by decide) ?_
          intro T53 L53 v53 X53 hQ53
          obtain ⟨rfl, N53q, e53⟩ := hQ53
          have N53 := Fr.app N51 N53q
          show Own.Fin p e below (T53.setTop (mkF m 277 #[.val (.int p1), .val (.long q2), .second, .val (.int p3), .val (.int p4), .val (.int cc), .val (.int md), .val (.int at_), .val (.int ln), .val (.int ixx), .val (.int pt), .val (.int po), .val (.ref b1), .unset, .unset, .unset] [(.int (F_hl (((cc >>> ((4 : Int32) &&& 31))) &&& (15 : Int32)))), (.int (at_ + (4 : Int32))), (.ref b1)])) _
          refine Own.go (fun t k => XS.i2b X53.here hx rfl (hb hby at_277) rfl k) ?_
          show Own.Fin p e below (T53.setTop (mkF m 278 #[.val (.int p1), .val (.long q2), .second, .val (.int p3), .val (.int p4), .val (.int cc), .val (.int md), .val (.int at_), .val (.int ln), .val (.int ixx), .val (.int pt), .val (.int po), .val (.ref b1), .unset, .unset, .unset] [(.int (((F_hl (((cc >>> ((4 : Int32) &&& 31))) &&& (15 : Int32)))).toInt8.toInt32)), (.int (at_ + (4 : Int32))), (.ref b1)])) _
          refine Own.stB X53 hx hZ e53 V51 (hb hby at_278) (own_at _ 4 4 (by decide) hat (by decide) (by decide)) _ rfl (Nat.lt_of_lt_of_eq (Own.clamp_lt (n := 12) (own_at _ 4 4 (by decide) hat (by decide) (by decide)) (by decide)) hl51.symm) ?_
          intro T54 h54 X54 e54 W54 V54
          have N54 := Fr.snoc X54 N53 ge1
          have Z54 : n0 ≤ h54.size := by rw [W54.size]; exact Z51
          have O54 := O51.wr W54 ge1
          have hl54 := (List.length_set (as := vs51) (i := ((at_ + (4 : Int32))).toNatClampNeg) (a := (.int (nar .byte (((F_hl (((cc >>> ((4 : Int32) &&& 31))) &&& (15 : Int32)))).toInt8.toInt32))))).trans hl51
          generalize hvs54 : List.set _ _ _ = vs54 at V54 hl54
          show Own.Fin p e below (T54.setTop (mkF m 279 #[.val (.int p1), .val (.long q2), .second, .val (.int p3), .val (.int p4), .val (.int cc), .val (.int md), .val (.int at_), .val (.int ln), .val (.int ixx), .val (.int pt), .val (.int po), .val (.ref b1), .unset, .unset, .unset] [])) _
          refine Own.go (fun t k => XS.aload X54.here hx rfl (hb hby at_279) rfl rfl k) ?_
          show Own.Fin p e below (T54.setTop (mkF m 281 #[.val (.int p1), .val (.long q2), .second, .val (.int p3), .val (.int p4), .val (.int cc), .val (.int md), .val (.int at_), .val (.int ln), .val (.int ixx), .val (.int pt), .val (.int po), .val (.ref b1), .unset, .unset, .unset] [(.ref b1)])) _
          refine Own.go (fun t k => XS.iload X54.here hx rfl (hb hby at_281) rfl k) ?_
          show Own.Fin p e below (T54.setTop (mkF m 283 #[.val (.int p1), .val (.long q2), .second, .val (.int p3), .val (.int p4), .val (.int cc), .val (.int md), .val (.int at_), .val (.int ln), .val (.int ixx), .val (.int pt), .val (.int po), .val (.ref b1), .unset, .unset, .unset] [(.int at_), (.ref b1)])) _
          refine Own.go (fun t k => XS.iconst X54.here hx rfl (hb hby at_283) k) ?_
          show Own.Fin p e below (T54.setTop (mkF m 284 #[.val (.int p1), .val (.long q2), .second, .val (.int p3), .val (.int p4), .val (.int cc), .val (.int md), .val (.int at_), .val (.int ln), .val (.int ixx), .val (.int pt), .val (.int po), .val (.ref b1), .unset, .unset, .unset] [(.int (5 : Int32)), (.int at_), (.ref b1)])) _
          refine Own.go (fun t k => XS.iadd X54.here hx rfl (hb hby at_284) rfl k) ?_
          show Own.Fin p e below (T54.setTop (mkF m 285 #[.val (.int p1), .val (.long q2), .second, .val (.int p3), .val (.int p4), .val (.int cc), .val (.int md), .val (.int at_), .val (.int ln), .val (.int ixx), .val (.int pt), .val (.int po), .val (.ref b1), .unset, .unset, .unset] [(.int (at_ + (5 : Int32))), (.ref b1)])) _
          refine Own.go (fun t k => XS.iload X54.here hx rfl (hb hby at_285) rfl k) ?_
          show Own.Fin p e below (T54.setTop (mkF m 287 #[.val (.int p1), .val (.long q2), .second, .val (.int p3), .val (.int p4), .val (.int cc), .val (.int md), .val (.int at_), .val (.int ln), .val (.int ixx), .val (.int pt), .val (.int po), .val (.ref b1), .unset, .unset, .unset] [(.int cc), (.int (at_ + (5 : Int32))), (.ref b1)])) _
          refine Own.go (fun t k => XS.bipush X54.here hx rfl (hb hby at_287) k) ?_
          show Own.Fin p e below (T54.setTop (mkF m 289 #[.val (.int p1), .val (.long q2), .second, .val (.int p3), .val (.int p4), .val (.int cc), .val (.int md), .val (.int at_), .val (.int ln), .val (.int ixx), .val (.int pt), .val (.int po), .val (.ref b1), .unset, .unset, .unset] [(.int (15 : Int32)), (.int cc), (.int (at_ + (5 : Int32))), (.ref b1)])) _
          refine Own.go (fun t k => XS.iand X54.here hx rfl (hb hby at_289) rfl k) ?_
          show Own.Fin p e below (T54.setTop (mkF m 290 #[.val (.int p1), .val (.long q2), .second, .val (.int p3), .val (.int p4), .val (.int cc), .val (.int md), .val (.int at_), .val (.int ln), .val (.int ixx), .val (.int pt), .val (.int po), .val (.ref b1), .unset, .unset, .unset] [(.int (cc &&& (15 : Int32))), (.int (at_ + (5 : Int32))), (.ref b1)])) _
          refine Own.cS X54 hx hZ hown (hw _ (List.mem_of_getElem? (i := 2) rfl)) (hw _ (List.mem_of_getElem? (i := 3) rfl)) (hw _ (List.mem_of_getElem? (i := 4) rfl)) (hw _ (List.mem_of_getElem? (i := 5) rfl)) (by decide) (rm1 l Z a0 hw [] (cc &&& (15 : Int32)) h54 n0 Z54 ) (by decide) (W := 2) (by decide) (argsL := [(.int (cc &&& (15 : Int32)))]) (rest := [(.int (at_ + (5 : Int32))), (.ref b1)]) (by rw [hml]; rfl) (lenOf pd_1 rfl) rfl (Nat.le_of_eq rfl) (hb hby at_290) e54 (by decide) (by decide) ?_
          intro T55 L55 v55 X55 hQ55
          obtain ⟨rfl, N55q, e55⟩ := hQ55
          have N55 := Fr.app N54 N55q
          show Own.Fin p e below (T55.setTop (mkF m 293 #[.val (.int p1), .val (.long q2), .second, .val (.int p3), .val (.int p4), .val (.int cc), .val (.int md), .val (.int at_), .val (.int ln), .val (.int ixx), .val (.int pt), .val (.int po), .val (.ref b1), .unset, .unset, .unset] [(.int (F_hl (cc &&& (15 : Int32)))), (.int (at_ + (5 : Int32))), (.ref b1)])) _
          refine Own.go (fun t k => XS.i2b X55.here hx rfl (hb hby at_293) rfl k) ?_
          show Own.Fin p e below (T55.setTop (mkF m 294 #[.val (.int p1), .val (.long q2), .second, .val (.int p3), .val (.int p4), .val (.int cc), .val (.int md), .val (.int at_), .val (.int ln), .val (.int ixx), .val (.int pt), .val (.int po), .val (.ref b1), .unset, .unset, .unset] [(.int (((F_hl (cc &&& (15 : Int32)))).toInt8.toInt32)), (.int (at_ + (5 : Int32))), (.ref b1)])) _
          refine Own.stB X55 hx hZ e55 V54 (hb hby at_294) (own_at _ 5 5 (by decide) hat (by decide) (by decide)) _ rfl (Nat.lt_of_lt_of_eq (Own.clamp_lt (n := 12) (own_at _ 5 5 (by decide) hat (by decide) (by decide)) (by decide)) hl54.symm) ?_
          intro T56 h56 X56 e56 W56 V56
          have N56 := Fr.snoc X56 N55 ge1
          have Z56 : n0 ≤ h56.size := by rw [W56.size]; exact Z54
          have O56 := O54.wr W56 ge1
          have hl56 := (List.length_set (as := vs54) (i := ((at_ + (5 : Int32))).toNatClampNeg) (a := (.int (nar .byte (((F_hl (cc &&& (15 : Int32)))).toInt8.toInt32))))).trans hl54
          generalize hvs56 : List.set _ _ _ = vs56 at V56 hl56
          show Own.Fin p e below (T56.setTop (mkF m 295 #[.val (.int p1), .val (.long q2), .second, .val (.int p3), .val (.int p4), .val (.int cc), .val (.int md), .val (.int at_), .val (.int ln), .val (.int ixx), .val (.int pt), .val (.int po), .val (.ref b1), .unset, .unset, .unset] [])) _
          refine Own.go (fun t k => XS.goto X56.here hx rfl (pc0 := 295) (pc' := 354) rfl (hb hby at_295) (by decide) (by decide) k) ?_
          show Own.Fin p e below (T56.setTop (mkF m 354 #[.val (.int p1), .val (.long q2), .second, .val (.int p3), .val (.int p4), .val (.int cc), .val (.int md), .val (.int at_), .val (.int ln), .val (.int ixx), .val (.int pt), .val (.int po), .val (.ref b1), .unset, .unset, .unset] [])) _
          exact j354 _ _ _ _ X56 e56 N56 Z56 O56 V56 hl56 
        · skip
          refine Own.go (fun t k => XS.icmpYes X51.here hx rfl (pc0 := 258) (pc' := 298) rfl (hb hby at_258) rfl (feq hc258_51).2 (by decide) (by decide) k) ?_
          show Own.Fin p e below (T51.setTop (mkF m 298 #[.val (.int p1), .val (.long q2), .second, .val (.int p3), .val (.int p4), .val (.int cc), .val (.int md), .val (.int at_), .val (.int ln), .val (.int ixx), .val (.int pt), .val (.int po), .val (.ref b1), .unset, .unset, .unset] [])) _
          refine Own.go (fun t k => XS.aload X51.here hx rfl (hb hby at_298) rfl rfl k) ?_
          show Own.Fin p e below (T51.setTop (mkF m 300 #[.val (.int p1), .val (.long q2), .second, .val (.int p3), .val (.int p4), .val (.int cc), .val (.int md), .val (.int at_), .val (.int ln), .val (.int ixx), .val (.int pt), .val (.int po), .val (.ref b1), .unset, .unset, .unset] [(.ref b1)])) _
          refine Own.go (fun t k => XS.iload X51.here hx rfl (hb hby at_300) rfl k) ?_
          show Own.Fin p e below (T51.setTop (mkF m 302 #[.val (.int p1), .val (.long q2), .second, .val (.int p3), .val (.int p4), .val (.int cc), .val (.int md), .val (.int at_), .val (.int ln), .val (.int ixx), .val (.int pt), .val (.int po), .val (.ref b1), .unset, .unset, .unset] [(.int at_), (.ref b1)])) _
          refine Own.go (fun t k => XS.iconst X51.here hx rfl (hb hby at_302) k) ?_
          show Own.Fin p e below (T51.setTop (mkF m 303 #[.val (.int p1), .val (.long q2), .second, .val (.int p3), .val (.int p4), .val (.int cc), .val (.int md), .val (.int at_), .val (.int ln), .val (.int ixx), .val (.int pt), .val (.int po), .val (.ref b1), .unset, .unset, .unset] [(.int (4 : Int32)), (.int at_), (.ref b1)])) _
          refine Own.go (fun t k => XS.iadd X51.here hx rfl (hb hby at_303) rfl k) ?_
          show Own.Fin p e below (T51.setTop (mkF m 304 #[.val (.int p1), .val (.long q2), .second, .val (.int p3), .val (.int p4), .val (.int cc), .val (.int md), .val (.int at_), .val (.int ln), .val (.int ixx), .val (.int pt), .val (.int po), .val (.ref b1), .unset, .unset, .unset] [(.int (at_ + (4 : Int32))), (.ref b1)])) _
          refine Own.go (fun t k => XS.iload X51.here hx rfl (hb hby at_304) rfl k) ?_
          show Own.Fin p e below (T51.setTop (mkF m 306 #[.val (.int p1), .val (.long q2), .second, .val (.int p3), .val (.int p4), .val (.int cc), .val (.int md), .val (.int at_), .val (.int ln), .val (.int ixx), .val (.int pt), .val (.int po), .val (.ref b1), .unset, .unset, .unset] [(.int cc), (.int (at_ + (4 : Int32))), (.ref b1)])) _
          refine Own.go (fun t k => XS.iconst X51.here hx rfl (hb hby at_306) k) ?_
          show Own.Fin p e below (T51.setTop (mkF m 307 #[.val (.int p1), .val (.long q2), .second, .val (.int p3), .val (.int p4), .val (.int cc), .val (.int md), .val (.int at_), .val (.int ln), .val (.int ixx), .val (.int pt), .val (.int po), .val (.ref b1), .unset, .unset, .unset] [(.int (4 : Int32)), (.int cc), (.int (at_ + (4 : Int32))), (.ref b1)])) _
          refine Own.go (fun t k => XS.ishr X51.here hx rfl (hb hby at_307) rfl k) ?_
          show Own.Fin p e below (T51.setTop (mkF m 308 #[.val (.int p1), .val (.long q2), .second, .val (.int p3), .val (.int p4), .val (.int cc), .val (.int md), .val (.int at_), .val (.int ln), .val (.int ixx), .val (.int pt), .val (.int po), .val (.ref b1), .unset, .unset, .unset] [(.int ((cc >>> ((4 : Int32) &&& 31)))), (.int (at_ + (4 : Int32))), (.ref b1)])) _
          refine Own.go (fun t k => XS.bipush X51.here hx rfl (hb hby at_308) k) ?_
          show Own.Fin p e below (T51.setTop (mkF m 310 #[.val (.int p1), .val (.long q2), .second, .val (.int p3), .val (.int p4), .val (.int cc), .val (.int md), .val (.int at_), .val (.int ln), .val (.int ixx), .val (.int pt), .val (.int po), .val (.ref b1), .unset, .unset, .unset] [(.int (15 : Int32)), (.int ((cc >>> ((4 : Int32) &&& 31)))), (.int (at_ + (4 : Int32))), (.ref b1)])) _
          refine Own.go (fun t k => XS.iand X51.here hx rfl (hb hby at_310) rfl k) ?_
          show Own.Fin p e below (T51.setTop (mkF m 311 #[.val (.int p1), .val (.long q2), .second, .val (.int p3), .val (.int p4), .val (.int cc), .val (.int md), .val (.int at_), .val (.int ln), .val (.int ixx), .val (.int pt), .val (.int po), .val (.ref b1), .unset, .unset, .unset] [(.int (((cc >>> ((4 : Int32) &&& 31))) &&& (15 : Int32))), (.int (at_ + (4 : Int32))), (.ref b1)])) _
          refine Own.cS X51 hx hZ hown (hw _ (List.mem_of_getElem? (i := 15) rfl)) (hw _ (List.mem_of_getElem? (i := 16) rfl)) (hw _ (List.mem_of_getElem? (i := 4) rfl)) (hw _ (List.mem_of_getElem? (i := 17) rfl)) (by decide) (rm4 l Z a0 hw [] (((cc >>> ((4 : Int32) &&& 31))) &&& (15 : Int32)) h51 n0 Z51) (by decide) (W := 2) (by decide) (argsL := [(.int (((cc >>> ((4 : Int32) &&& 31))) &&& (15 : Int32)))]) (rest := [(.int (at_ + (4 : Int32))), (.ref b1)]) (by rw [hml]; rfl) (lenOf pd_1 rfl) rfl (Nat.le_of_eq rfl) (hb hby at_311) e51 (by decide) (by decide) ?_
          intro T57 L57 v57 X57 hQ57
          obtain ⟨z57, rfl, N57q, e57⟩ := hQ57
          have N57 := Fr.app N51 N57q
          show Own.Fin p e below (T57.setTop (mkF m 314 #[.val (.int p1), .val (.long q2), .second, .val (.int p3), .val (.int p4), .val (.int cc), .val (.int md), .val (.int at_), .val (.int ln), .val (.int ixx), .val (.int pt), .val (.int po), .val (.ref b1), .unset, .unset, .unset] [(.int z57), (.int (at_ + (4 : Int32))), (.ref b1)])) _
          refine Own.go (fun t k => XS.i2b X57.here hx rfl (hb hby at_314) rfl k) ?_
          show Own.Fin p e below (T57.setTop (mkF m 315 #[.val (.int p1), .val (.long q2), .second, .val (.int p3), .val (.int p4), .val (.int cc), .val (.int md), .val (.int at_), .val (.int ln), .val (.int ixx), .val (.int pt), .val (.int po), .val (.ref b1), .unset, .unset, .unset] [(.int ((z57).toInt8.toInt32)), (.int (at_ + (4 : Int32))), (.ref b1)])) _
          refine Own.stB X57 hx hZ e57 V51 (hb hby at_315) (own_at _ 4 4 (by decide) hat (by decide) (by decide)) _ rfl (Nat.lt_of_lt_of_eq (Own.clamp_lt (n := 12) (own_at _ 4 4 (by decide) hat (by decide) (by decide)) (by decide)) hl51.symm) ?_
          intro T58 h58 X58 e58 W58 V58
          have N58 := Fr.snoc X58 N57 ge1
          have Z58 : n0 ≤ h58.size := by rw [W58.size]; exact Z51
          have O58 := O51.wr W58 ge1
          have hl58 := (List.length_set (as := vs51) (i := ((at_ + (4 : Int32))).toNatClampNeg) (a := (.int (nar .byte ((z57).toInt8.toInt32))))).trans hl51
          generalize hvs58 : List.set _ _ _ = vs58 at V58 hl58
          show Own.Fin p e below (T58.setTop (mkF m 316 #[.val (.int p1), .val (.long q2), .second, .val (.int p3), .val (.int p4), .val (.int cc), .val (.int md), .val (.int at_), .val (.int ln), .val (.int ixx), .val (.int pt), .val (.int po), .val (.ref b1), .unset, .unset, .unset] [])) _
          refine Own.go (fun t k => XS.aload X58.here hx rfl (hb hby at_316) rfl rfl k) ?_
          show Own.Fin p e below (T58.setTop (mkF m 318 #[.val (.int p1), .val (.long q2), .second, .val (.int p3), .val (.int p4), .val (.int cc), .val (.int md), .val (.int at_), .val (.int ln), .val (.int ixx), .val (.int pt), .val (.int po), .val (.ref b1), .unset, .unset, .unset] [(.ref b1)])) _
          refine Own.go (fun t k => XS.iload X58.here hx rfl (hb hby at_318) rfl k) ?_
          show Own.Fin p e below (T58.setTop (mkF m 320 #[.val (.int p1), .val (.long q2), .second, .val (.int p3), .val (.int p4), .val (.int cc), .val (.int md), .val (.int at_), .val (.int ln), .val (.int ixx), .val (.int pt), .val (.int po), .val (.ref b1), .unset, .unset, .unset] [(.int at_), (.ref b1)])) _
          refine Own.go (fun t k => XS.iconst X58.here hx rfl (hb hby at_320) k) ?_
          show Own.Fin p e below (T58.setTop (mkF m 321 #[.val (.int p1), .val (.long q2), .second, .val (.int p3), .val (.int p4), .val (.int cc), .val (.int md), .val (.int at_), .val (.int ln), .val (.int ixx), .val (.int pt), .val (.int po), .val (.ref b1), .unset, .unset, .unset] [(.int (5 : Int32)), (.int at_), (.ref b1)])) _
          refine Own.go (fun t k => XS.iadd X58.here hx rfl (hb hby at_321) rfl k) ?_
          show Own.Fin p e below (T58.setTop (mkF m 322 #[.val (.int p1), .val (.long q2), .second, .val (.int p3), .val (.int p4), .val (.int cc), .val (.int md), .val (.int at_), .val (.int ln), .val (.int ixx), .val (.int pt), .val (.int po), .val (.ref b1), .unset, .unset, .unset] [(.int (at_ + (5 : Int32))), (.ref b1)])) _
          refine Own.go (fun t k => XS.iload X58.here hx rfl (hb hby at_322) rfl k) ?_
          show Own.Fin p e below (T58.setTop (mkF m 324 #[.val (.int p1), .val (.long q2), .second, .val (.int p3), .val (.int p4), .val (.int cc), .val (.int md), .val (.int at_), .val (.int ln), .val (.int ixx), .val (.int pt), .val (.int po), .val (.ref b1), .unset, .unset, .unset] [(.int cc), (.int (at_ + (5 : Int32))), (.ref b1)])) _
          refine Own.go (fun t k => XS.bipush X58.here hx rfl (hb hby at_324) k) ?_
          show Own.Fin p e below (T58.setTop (mkF m 326 #[.val (.int p1), .val (.long q2), .second, .val (.int p3), .val (.int p4), .val (.int cc), .val (.int md), .val (.int at_), .val (.int ln), .val (.int ixx), .val (.int pt), .val (.int po), .val (.ref b1), .unset, .unset, .unset] [(.int (15 : Int32)), (.int cc), (.int (at_ + (5 : Int32))), (.ref b1)])) _
          refine Own.go (fun t k => XS.iand X58.here hx rfl (hb hby at_326) rfl k) ?_
          show Own.Fin p e below (T58.setTop (mkF m 327 #[.val (.int p1), .val (.long q2), .second, .val (.int p3), .val (.int p4), .val (.int cc), .val (.int md), .val (.int at_), .val (.int ln), .val (.int ixx), .val (.int pt), .val (.int po), .val (.ref b1), .unset, .unset, .unset] [(.int (cc &&& (15 : Int32))), (.int (at_ + (5 : Int32))), (.ref b1)])) _
          refine Own.cS X58 hx hZ hown (hw _ (List.mem_of_getElem? (i := 15) rfl)) (hw _ (List.mem_of_getElem? (i := 16) rfl)) (hw _ (List.mem_of_getElem? (i := 4) rfl)) (hw _ (List.mem_of_getElem? (i := 17) rfl)) (by decide) (rm4 l Z a0 hw [] (cc &&& (15 : Int32)) h58 n0 Z58) (by decide) (W := 2) (by decide) (argsL := [(.int (cc &&& (15 : Int32)))]) (rest := [(.int (at_ + (5 : Int32))), (.ref b1)]) (by rw [hml]; rfl) (lenOf pd_1 rfl) rfl (Nat.le_of_eq rfl) (hb hby at_327) e58 (by decide) (by decide) ?_
          intro T59 L59 v59 X59 hQ59
          obtain ⟨z59, rfl, N59q, e59⟩ := hQ59
          have N59 := Fr.app N58 N59q
          show Own.Fin p e below (T59.setTop (mkF m 330 #[.val (.int p1), .val (.long q2), .second, .val (.int p3), .val (.int p4), .val (.int cc), .val (.int md), .val (.int at_), .val (.int ln), .val (.int ixx), .val (.int pt), .val (.int po), .val (.ref b1), .unset, .unset, .unset] [(.int z59), (.int (at_ + (5 : Int32))), (.ref b1)])) _
          refine Own.go (fun t k => XS.i2b X59.here hx rfl (hb hby at_330) rfl k) ?_
          show Own.Fin p e below (T59.setTop (mkF m 331 #[.val (.int p1), .val (.long q2), .second, .val (.int p3), .val (.int p4), .val (.int cc), .val (.int md), .val (.int at_), .val (.int ln), .val (.int ixx), .val (.int pt), .val (.int po), .val (.ref b1), .unset, .unset, .unset] [(.int ((z59).toInt8.toInt32)), (.int (at_ + (5 : Int32))), (.ref b1)])) _
          refine Own.stB X59 hx hZ e59 V58 (hb hby at_331) (own_at _ 5 5 (by decide) hat (by decide) (by decide)) _ rfl (Nat.lt_of_lt_of_eq (Own.clamp_lt (n := 12) (own_at _ 5 5 (by decide) hat (by decide) (by decide)) (by decide)) hl58.symm) ?_
          intro T60 h60 X60 e60 W60 V60
          have N60 := Fr.snoc X60 N59 ge1
          have Z60 : n0 ≤ h60.size := by rw [W60.size]; exact Z58
          have O60 := O58.wr W60 ge1
          have hl60 := (List.length_set (as := vs58) (i := ((at_ + (5 : Int32))).toNatClampNeg) (a := (.int (nar .byte ((z59).toInt8.toInt32))))).trans hl58
          generalize hvs60 : List.set _ _ _ = vs60 at V60 hl60
          show Own.Fin p e below (T60.setTop (mkF m 332 #[.val (.int p1), .val (.long q2), .second, .val (.int p3), .val (.int p4), .val (.int cc), .val (.int md), .val (.int at_), .val (.int ln), .val (.int ixx), .val (.int pt), .val (.int po), .val (.ref b1), .unset, .unset, .unset] [])) _
          refine Own.go (fun t k => XS.goto X60.here hx rfl (pc0 := 332) (pc' := 354) rfl (hb hby at_332) (by decide) (by decide) k) ?_
          show Own.Fin p e below (T60.setTop (mkF m 354 #[.val (.int p1), .val (.long q2), .second, .val (.int p3), .val (.int p4), .val (.int cc), .val (.int md), .val (.int at_), .val (.int ln), .val (.int ixx), .val (.int pt), .val (.int po), .val (.ref b1), .unset, .unset, .unset] [])) _
          exact j354 _ _ _ _ X60 e60 N60 Z60 O60 V60 hl60 
      · skip
        refine Own.go (fun t k => XS.icmpNo X14.here hx rfl (hb hby at_219) rfl (feq hc219_47).1 k) ?_
        show Own.Fin p e below (T14.setTop (mkF m 222 #[.val (.int p1), .val (.long q2), .second, .val (.int p3), .val (.int p4), .val (.int cc), .val (.int md), .val (.int at_), .val (.int ln), .val (.int ixx), .val (.int pt), .val (.int po), .val (.ref b1), .unset, .unset, .unset] [])) _
        refine Own.go (fun t k => XS.iload X14.here hx rfl (hb hby at_222) rfl k) ?_
        show Own.Fin p e below (T14.setTop (mkF m 224 #[.val (.int p1), .val (.long q2), .second, .val (.int p3), .val (.int p4), .val (.int cc), .val (.int md), .val (.int at_), .val (.int ln), .val (.int ixx), .val (.int pt), .val (.int po), .val (.ref b1), .unset, .unset, .unset] [(.int md)])) _
        refine Own.go (fun t k => XS.iconst X14.here hx rfl (hb hby at_224) k) ?_
        show Own.Fin p e below (T14.setTop (mkF m 225 #[.val (.int p1), .val (.long q2), .second, .val (.int p3), .val (.int p4), .val (.int cc), .val (.int md), .val (.int at_), .val (.int ln), .val (.int ixx), .val (.int pt), .val (.int po), .val (.ref b1), .unset, .unset, .unset] [(.int (3 : Int32)), (.int md)])) _
        by_cases hc225_60 : md = (3 : Int32)
        · skip
          refine Own.go (fun t k => XS.icmpNo X14.here hx rfl (hb hby at_225) rfl (teq hc225_60).2 k) ?_
          show Own.Fin p e below (T14.setTop (mkF m 228 #[.val (.int p1), .val (.long q2), .second, .val (.int p3), .val (.int p4), .val (.int cc), .val (.int md), .val (.int at_), .val (.int ln), .val (.int ixx), .val (.int pt), .val (.int po), .val (.ref b1), .unset, .unset, .unset] [])) _
          refine Own.go (fun t k => XS.aload X14.here hx rfl (hb hby at_228) rfl rfl k) ?_
          show Own.Fin p e below (T14.setTop (mkF m 230 #[.val (.int p1), .val (.long q2), .second, .val (.int p3), .val (.int p4), .val (.int cc), .val (.int md), .val (.int at_), .val (.int ln), .val (.int ixx), .val (.int pt), .val (.int po), .val (.ref b1), .unset, .unset, .unset] [(.ref b1)])) _
          refine Own.go (fun t k => XS.iload X14.here hx rfl (hb hby at_230) rfl k) ?_
          show Own.Fin p e below (T14.setTop (mkF m 232 #[.val (.int p1), .val (.long q2), .second, .val (.int p3), .val (.int p4), .val (.int cc), .val (.int md), .val (.int at_), .val (.int ln), .val (.int ixx), .val (.int pt), .val (.int po), .val (.ref b1), .unset, .unset, .unset] [(.int at_), (.ref b1)])) _
          refine Own.go (fun t k => XS.iconst X14.here hx rfl (hb hby at_232) k) ?_
          show Own.Fin p e below (T14.setTop (mkF m 233 #[.val (.int p1), .val (.long q2), .second, .val (.int p3), .val (.int p4), .val (.int cc), .val (.int md), .val (.int at_), .val (.int ln), .val (.int ixx), .val (.int pt), .val (.int po), .val (.ref b1), .unset, .unset, .unset] [(.int (1 : Int32)), (.int at_), (.ref b1)])) _
          refine Own.go (fun t k => XS.iadd X14.here hx rfl (hb hby at_233) rfl k) ?_
          show Own.Fin p e below (T14.setTop (mkF m 234 #[.val (.int p1), .val (.long q2), .second, .val (.int p3), .val (.int p4), .val (.int cc), .val (.int md), .val (.int at_), .val (.int ln), .val (.int ixx), .val (.int pt), .val (.int po), .val (.ref b1), .unset, .unset, .unset] [(.int (at_ + (1 : Int32))), (.ref b1)])) _
          refine Own.go (fun t k => XS.bipush X14.here hx rfl (hb hby at_234) k) ?_
          show Own.Fin p e below (T14.setTop (mkF m 236 #[.val (.int p1), .val (.long q2), .second, .val (.int p3), .val (.int p4), .val (.int cc), .val (.int md), .val (.int at_), .val (.int ln), .val (.int ixx), .val (.int pt), .val (.int po), .val (.ref b1), .unset, .unset, .unset] [(.int (117 : Int32)), (.int (at_ + (1 : Int32))), (.ref b1)])) _
          refine Own.stB X14 hx hZ e14 V14 (hb hby at_236) (own_at _ 1 1 (by decide) hat (by decide) (by decide)) _ rfl (Nat.lt_of_lt_of_eq (Own.clamp_lt (n := 12) (own_at _ 1 1 (by decide) hat (by decide) (by decide)) (by decide)) hl14.symm) ?_
          intro T62 h62 X62 e62 W62 V62
          have N62 := Fr.snoc X62 N14 ge1
          have Z62 : n0 ≤ h62.size := by rw [W62.size]; exact Z14
          have O62 := O14.wr W62 ge1
          have hl62 := (List.length_set (as := vs14) (i := ((at_ + (1 : Int32))).toNatClampNeg) (a := (.int (nar .byte (117 : Int32))))).trans hl14
          generalize hvs62 : List.set _ _ _ = vs62 at V62 hl62
          show Own.Fin p e below (T62.setTop (mkF m 237 #[.val (.int p1), .val (.long q2), .second, .val (.int p3), .val (.int p4), .val (.int cc), .val (.int md), .val (.int at_), .val (.int ln), .val (.int ixx), .val (.int pt), .val (.int po), .val (.ref b1), .unset, .unset, .unset] [])) _
          refine Own.go (fun t k => XS.aload X62.here hx rfl (hb hby at_237) rfl rfl k) ?_
          show Own.Fin p e below (T62.setTop (mkF m 239 #[.val (.int p1), .val (.long q2), .second, .val (.int p3), .val (.int p4), .val (.int cc), .val (.int md), .val (.int at_), .val (.int ln), .val (.int ixx), .val (.int pt), .val (.int po), .val (.ref b1), .unset, .unset, .unset] [(.ref b1)])) _
          refine Own.go (fun t k => XS.iload X62.here hx rfl (hb hby at_239) rfl k) ?_
          show Own.Fin p e below (T62.setTop (mkF m 241 #[.val (.int p1), .val (.long q2), .second, .val (.int p3), .val (.int p4), .val (.int cc), .val (.int md), .val (.int at_), .val (.int ln), .val (.int ixx), .val (.int pt), .val (.int po), .val (.ref b1), .unset, .unset, .unset] [(.int at_), (.ref b1)])) _
          refine Own.go (fun t k => XS.iconst X62.here hx rfl (hb hby at_241) k) ?_
          show Own.Fin p e below (T62.setTop (mkF m 242 #[.val (.int p1), .val (.long q2), .second, .val (.int p3), .val (.int p4), .val (.int cc), .val (.int md), .val (.int at_), .val (.int ln), .val (.int ixx), .val (.int pt), .val (.int po), .val (.ref b1), .unset, .unset, .unset] [(.int (2 : Int32)), (.int at_), (.ref b1)])) _
          refine Own.go (fun t k => XS.iadd X62.here hx rfl (hb hby at_242) rfl k) ?_
          show Own.Fin p e below (T62.setTop (mkF m 243 #[.val (.int p1), .val (.long q2), .second, .val (.int p3), .val (.int p4), .val (.int cc), .val (.int md), .val (.int at_), .val (.int ln), .val (.int ixx), .val (.int pt), .val (.int po), .val (.ref b1), .unset, .unset, .unset] [(.int (at_ + (2 : Int32))), (.ref b1)])) _
          refine Own.go (fun t k => XS.bipush X62.here hx rfl (hb hby at_243) k) ?_
          show Own.Fin p e below (T62.setTop (mkF m 245 #[.val (.int p1), .val (.long q2), .second, .val (.int p3), .val (.int p4), .val (.int cc), .val (.int md), .val (.int at_), .val (.int ln), .val (.int ixx), .val (.int pt), .val (.int po), .val (.ref b1), .unset, .unset, .unset] [(.int (48 : Int32)), (.int (at_ + (2 : Int32))), (.ref b1)])) _
          refine Own.stB X62 hx hZ e62 V62 (hb hby at_245) (own_at _ 2 2 (by decide) hat (by decide) (by decide)) _ rfl (Nat.lt_of_lt_of_eq (Own.clamp_lt (n := 12) (own_at _ 2 2 (by decide) hat (by decide) (by decide)) (by decide)) hl62.symm) ?_
          intro T63 h63 X63 e63 W63 V63
          have N63 := Fr.snoc X63 N62 ge1
          have Z63 : n0 ≤ h63.size := by rw [W63.size]; exact Z62
          have O63 := O62.wr W63 ge1
          have hl63 := (List.length_set (as := vs62) (i := ((at_ + (2 : Int32))).toNatClampNeg) (a := (.int (nar .byte (48 : Int32))))).trans hl62
          generalize hvs63 : List.set _ _ _ = vs63 at V63 hl63
          show Own.Fin p e below (T63.setTop (mkF m 246 #[.val (.int p1), .val (.long q2), .second, .val (.int p3), .val (.int p4), .val (.int cc), .val (.int md), .val (.int at_), .val (.int ln), .val (.int ixx), .val (.int pt), .val (.int po), .val (.ref b1), .unset, .unset, .unset] [])) _
          refine Own.go (fun t k => XS.aload X63.here hx rfl (hb hby at_246) rfl rfl k) ?_
          show Own.Fin p e below (T63.setTop (mkF m 248 #[.val (.int p1), .val (.long q2), .second, .val (.int p3), .val (.int p4), .val (.int cc), .val (.int md), .val (.int at_), .val (.int ln), .val (.int ixx), .val (.int pt), .val (.int po), .val (.ref b1), .unset, .unset, .unset] [(.ref b1)])) _
          refine Own.go (fun t k => XS.iload X63.here hx rfl (hb hby at_248) rfl k) ?_
          show Own.Fin p e below (T63.setTop (mkF m 250 #[.val (.int p1), .val (.long q2), .second, .val (.int p3), .val (.int p4), .val (.int cc), .val (.int md), .val (.int at_), .val (.int ln), .val (.int ixx), .val (.int pt), .val (.int po), .val (.ref b1), .unset, .unset, .unset] [(.int at_), (.ref b1)])) _
          refine Own.go (fun t k => XS.iconst X63.here hx rfl (hb hby at_250) k) ?_
          show Own.Fin p e below (T63.setTop (mkF m 251 #[.val (.int p1), .val (.long q2), .second, .val (.int p3), .val (.int p4), .val (.int cc), .val (.int md), .val (.int at_), .val (.int ln), .val (.int ixx), .val (.int pt), .val (.int po), .val (.ref b1), .unset, .unset, .unset] [(.int (3 : Int32)), (.int at_), (.ref b1)])) _
          refine Own.go (fun t k => XS.iadd X63.here hx rfl (hb hby at_251) rfl k) ?_
          show Own.Fin p e below (T63.setTop (mkF m 252 #[.val (.int p1), .val (.long q2), .second, .val (.int p3), .val (.int p4), .val (.int cc), .val (.int md), .val (.int at_), .val (.int ln), .val (.int ixx), .val (.int pt), .val (.int po), .val (.ref b1), .unset, .unset, .unset] [(.int (at_ + (3 : Int32))), (.ref b1)])) _
          refine Own.go (fun t k => XS.bipush X63.here hx rfl (hb hby at_252) k) ?_
          show Own.Fin p e below (T63.setTop (mkF m 254 #[.val (.int p1), .val (.long q2), .second, .val (.int p3), .val (.int p4), .val (.int cc), .val (.int md), .val (.int at_), .val (.int ln), .val (.int ixx), .val (.int pt), .val (.int po), .val (.ref b1), .unset, .unset, .unset] [(.int (48 : Int32)), (.int (at_ + (3 : Int32))), (.ref b1)])) _
          refine Own.stB X63 hx hZ e63 V63 (hb hby at_254) (own_at _ 3 3 (by decide) hat (by decide) (by decide)) _ rfl (Nat.lt_of_lt_of_eq (Own.clamp_lt (n := 12) (own_at _ 3 3 (by decide) hat (by decide) (by decide)) (by decide)) hl63.symm) ?_
          intro T64 h64 X64 e64 W64 V64
          have N64 := Fr.snoc X64 N63 ge1
          have Z64 : n0 ≤ h64.size := by rw [W64.size]; exact Z63
          have O64 := O63.wr W64 ge1
          have hl64 := (List.length_set (as := vs63) (i := ((at_ + (3 : Int32))).toNatClampNeg) (a := (.int (nar .byte (48 : Int32))))).trans hl63
          generalize hvs64 : List.set _ _ _ = vs64 at V64 hl64
          show Own.Fin p e below (T64.setTop (mkF m 255 #[.val (.int p1), .val (.long q2), .second, .val (.int p3), .val (.int p4), .val (.int cc), .val (.int md), .val (.int at_), .val (.int ln), .val (.int ixx), .val (.int pt), .val (.int po), .val (.ref b1), .unset, .unset, .unset] [])) _
          refine Own.go (fun t k => XS.iload X64.here hx rfl (hb hby at_255) rfl k) ?_
          show Own.Fin p e below (T64.setTop (mkF m 257 #[.val (.int p1), .val (.long q2), .second, .val (.int p3), .val (.int p4), .val (.int cc), .val (.int md), .val (.int at_), .val (.int ln), .val (.int ixx), .val (.int pt), .val (.int po), .val (.ref b1), .unset, .unset, .unset] [(.int md)])) _
          refine Own.go (fun t k => XS.iconst X64.here hx rfl (hb hby at_257) k) ?_
          show Own.Fin p e below (T64.setTop (mkF m 258 #[.val (.int p1), .val (.long q2), .second, .val (.int p3), .val (.int p4), .val (.int cc), .val (.int md), .val (.int at_), .val (.int ln), .val (.int ixx), .val (.int pt), .val (.int po), .val (.ref b1), .unset, .unset, .unset] [(.int (1 : Int32)), (.int md)])) _
          by_cases hc258_64 : md = (1 : Int32)
          · skip
            refine Own.go (fun t k => XS.icmpNo X64.here hx rfl (hb hby at_258) rfl (teq hc258_64).2 k) ?_
            show Own.Fin p e below (T64.setTop (mkF m 261 #[.val (.int p1), .val (.long q2), .second, .val (.int p3), .val (.int p4), .val (.int cc), .val (.int md), .val (.int at_), .val (.int ln), .val (.int ixx), .val (.int pt), .val (.int po), .val (.ref b1), .unset, .unset, .unset] [])) _
            refine Own.go (fun t k => XS.aload X64.here hx rfl (hb hby at_261) rfl rfl k) ?_
            show Own.Fin p e below (T64.setTop (mkF m 263 #[.val (.int p1), .val (.long q2), .second, .val (.int p3), .val (.int p4), .val (.int cc), .val (.int md), .val (.int at_), .val (.int ln), .val (.int ixx), .val (.int pt), .val (.int po), .val (.ref b1), .unset, .unset, .unset] [(.ref b1)])) _
            refine Own.go (fun t k => XS.iload X64.here hx rfl (hb hby at_263) rfl k) ?_
            show Own.Fin p e below (T64.setTop (mkF m 265 #[.val (.int p1), .val (.long q2), .second, .val (.int p3), .val (.int p4), .val (.int cc), .val (.int md), .val (.int at_), .val (.int ln), .val (.int ixx), .val (.int pt), .val (.int po), .val (.ref b1), .unset, .unset, .unset] [(.int at_), (.ref b1)])) _
            refine Own.go (fun t k => XS.iconst X64.here hx rfl (hb hby at_265) k) ?_
            show Own.Fin p e below (T64.setTop (mkF m 266 #[.val (.int p1), .val (.long q2), .second, .val (.int p3), .val (.int p4), .val (.int cc), .val (.int md), .val (.int at_), .val (.int ln), .val (.int ixx), .val (.int pt), .val (.int po), .val (.ref b1), .unset, .unset, .unset] [(.int (4 : Int32)), (.int at_), (.ref b1)])) _
            refine Own.go (fun t k => XS.iadd X64.here hx rfl (hb hby at_266) rfl k) ?_
            show Own.Fin p e below (T64.setTop (mkF m 267 #[.val (.int p1), .val (.long q2), .second, .val (.int p3), .val (.int p4), .val (.int cc), .val (.int md), .val (.int at_), .val (.int ln), .val (.int ixx), .val (.int pt), .val (.int po), .val (.ref b1), .unset, .unset, .unset] [(.int (at_ + (4 : Int32))), (.ref b1)])) _
            refine Own.go (fun t k => XS.iload X64.here hx rfl (hb hby at_267) rfl k) ?_
            show Own.Fin p e below (T64.setTop (mkF m 269 #[.val (.int p1), .val (.long q2), .second, .val (.int p3), .val (.int p4), .val (.int cc), .val (.int md), .val (.int at_), .val (.int ln), .val (.int ixx), .val (.int pt), .val (.int po), .val (.ref b1), .unset, .unset, .unset] [(.int cc), (.int (at_ + (4 : Int32))), (.ref b1)])) _
            refine Own.go (fun t k => XS.iconst X64.here hx rfl (hb hby at_269) k) ?_
            show Own.Fin p e below (T64.setTop (mkF m 270 #[.val (.int p1), .val (.long q2), .second, .val (.int p3), .val (.int p4), .val (.int cc), .val (.int md), .val (.int at_), .val (.int ln), .val (.int ixx), .val (.int pt), .val (.int po), .val (.ref b1), .unset, .unset, .unset] [(.int (4 : Int32)), (.int cc), (.int (at_ + (4 : Int32))), (.ref b1)])) _
            refine Own.go (fun t k => XS.ishr X64.here hx rfl (hb hby at_270) rfl k) ?_
            show Own.Fin p e below (T64.setTop (mkF m 271 #[.val (.int p1), .val (.long q2), .second, .val (.int p3), .val (.int p4), .val (.int cc), .val (.int md), .val (.int at_), .val (.int ln), .val (.int ixx), .val (.int pt), .val (.int po), .val (.ref b1), .unset, .unset, .unset] [(.int ((cc >>> ((4 : Int32) &&& 31)))), (.int (at_ + (4 : Int32))), (.ref b1)])) _
            refine Own.go (fun t k => XS.bipush X64.here hx rfl (hb hby at_271) k) ?_
            show Own.Fin p e below (T64.setTop (mkF m 273 #[.val (.int p1), .val (.long q2), .second, .val (.int p3), .val (.int p4), .val (.int cc), .val (.int md), .val (.int at_), .val (.int ln), .val (.int ixx), .val (.int pt), .val (.int po), .val (.ref b1), .unset, .unset, .unset] [(.int (15 : Int32)), (.int ((cc >>> ((4 : Int32) &&& 31)))), (.int (at_ + (4 : Int32))), (.ref b1)])) _
            refine Own.go (fun t k => XS.iand X64.here hx rfl (hb hby at_273) rfl k) ?_
            show Own.Fin p e below (T64.setTop (mkF m 274 #[.val (.int p1), .val (.long q2), .second, .val (.int p3), .val (.int p4), .val (.int cc), .val (.int md), .val (.int at_), .val (.int ln), .val (.int ixx), .val (.int pt), .val (.int po), .val (.ref b1), .unset, .unset, .unset] [(.int (((cc >>> ((4 : Int32) &&& 31))) &&& (15 : Int32))), (.int (at_ + (4 : Int32))), (.ref b1)])) _
            refine Own.cS X64 hx hZ hown (hw _ (List.mem_of_getElem? (i := 2) rfl)) (hw _ (List.mem_of_getElem? (i := 3) rfl)) (hw _ (List.mem_of_getElem? (i := 4) rfl)) (hw _ (List.mem_of_getElem? (i := 5) rfl)) (by decide) (rm1 l Z a0 hw [] (((cc >>> ((4 : Int32) &&& 31))) &&& (15 : Int32)) h64 n0 Z64 ) (by decide) (W := 2) (by decide) (argsL := [(.int (((cc >>> ((4 : Int32) &&& 31))) &&& (15 : Int32)))]) (rest := [(.int (at_ + (4 : Int32))), (.ref b1)]) (by rw [hml]; rfl) (lenOf pd_1 rfl) rfl (Nat.le_of_eq rfl) (hb hby at_274) e64 (by decide) (by decide) ?_
            intro T66 L66 v66 X66 hQ66
            obtain ⟨rfl, N66q, e66⟩ := hQ66
            have N66 := Fr.app N64 N66q
            show Own.Fin p e below (T66.setTop (mkF m 277 #[.val (.int p1), .val (.long q2), .second, .val (.int p3), .val (.int p4), .val (.int cc), .val (.int md), .val (.int at_), .val (.int ln), .val (.int ixx), .val (.int pt), .val (.int po), .val (.ref b1), .unset, .unset, .unset] [(.int (F_hl (((cc >>> ((4 : Int32) &&& 31))) &&& (15 : Int32)))), (.int (at_ + (4 : Int32))), (.ref b1)])) _
            refine Own.go (fun t k => XS.i2b X66.here hx rfl (hb hby at_277) rfl k) ?_
            show Own.Fin p e below (T66.setTop (mkF m 278 #[.val (.int p1), .val (.long q2), .second, .val (.int p3), .val (.int p4), .val (.int cc), .val (.int md), .val (.int at_), .val (.int ln), .val (.int ixx), .val (.int pt), .val (.int po), .val (.ref b1), .unset, .unset, .unset] [(.int (((F_hl (((cc >>> ((4 : Int32) &&& 31))) &&& (15 : Int32)))).toInt8.toInt32)), (.int (at_ + (4 : Int32))), (.ref b1)])) _
            refine Own.stB X66 hx hZ e66 V64 (hb hby at_278) (own_at _ 4 4 (by decide) hat (by decide) (by decide)) _ rfl (Nat.lt_of_lt_of_eq (Own.clamp_lt (n := 12) (own_at _ 4 4 (by decide) hat (by decide) (by decide)) (by decide)) hl64.symm) ?_
            intro T67 h67 X67 e67 W67 V67
            have N67 := Fr.snoc X67 N66 ge1
            have Z67 : n0 ≤ h67.size := by rw [W67.size]; exact Z64
            have O67 := O64.wr W67 ge1
            have hl67 := (List.length_set (as := vs64) (i := ((at_ + (4 : Int32))).toNatClampNeg) (a := (.int (nar .byte (((F_hl (((cc >>> ((4 : Int32) &&& 31))) &&& (15 : Int32)))).toInt8.toInt32))))).trans hl64
            generalize hvs67 : List.set _ _ _ = vs67 at V67 hl67
            show Own.Fin p e below (T67.setTop (mkF m 279 #[.val (.int p1), .val (.long q2), .second, .val (.int p3), .val (.int p4), .val (.int cc), .val (.int md), .val (.int at_), .val (.int ln), .val (.int ixx), .val (.int pt), .val (.int po), .val (.ref b1), .unset, .unset, .unset] [])) _
            refine Own.go (fun t k => XS.aload X67.here hx rfl (hb hby at_279) rfl rfl k) ?_
            show Own.Fin p e below (T67.setTop (mkF m 281 #[.val (.int p1), .val (.long q2), .second, .val (.int p3), .val (.int p4), .val (.int cc), .val (.int md), .val (.int at_), .val (.int ln), .val (.int ixx), .val (.int pt), .val (.int po), .val (.ref b1), .unset, .unset, .unset] [(.ref b1)])) _
            refine Own.go (fun t k => XS.iload X67.here hx rfl (hb hby at_281) rfl k) ?_
            show Own.Fin p e below (T67.setTop (mkF m 283 #[.val (.int p1), .val (.long q2), .second, .val (.int p3), .val (.int p4), .val (.int cc), .val (.int md), .val (.int at_), .val (.int ln), .val (.int ixx), .val (.int pt), .val (.int po), .val (.ref b1), .unset, .unset, .unset] [(.int at_), (.ref b1)])) _
            refine Own.go (fun t k => XS.iconst X67.here hx rfl (hb hby at_283) k) ?_
            show Own.Fin p e below (T67.setTop (mkF m 284 #[.val (.int p1), .val (.long q2), .second, .val (.int p3), .val (.int p4), .val (.int cc), .val (.int md), .val (.int at_), .val (.int ln), .val (.int ixx), .val (.int pt), .val (.int po), .val (.ref b1), .unset, .unset, .unset] [(.int (5 : Int32)), (.int at_), (.ref b1)])) _
            refine Own.go (fun t k => XS.iadd X67.here hx rfl (hb hby at_284) rfl k) ?_
            show Own.Fin p e below (T67.setTop (mkF m 285 #[.val (.int p1), .val (.long q2), .second, .val (.int p3), .val (.int p4), .val (.int cc), .val (.int md), .val (.int at_), .val (.int ln), .val (.int ixx), .val (.int pt), .val (.int po), .val (.ref b1), .unset, .unset, .unset] [(.int (at_ + (5 : Int32))), (.ref b1)])) _
            refine Own.go (fun t k => XS.iload X67.here hx rfl (hb hby at_285) rfl k) ?_
            show Own.Fin p e below (T67.setTop (mkF m 287 #[.val (.int p1), .val (.long q2), .second, .val (.int p3), .val (.int p4), .val (.int cc), .val (.int md), .val (.int at_), .val (.int ln), .val (.int ixx), .val (.int pt), .val (.int po), .val (.ref b1), .unset, .unset, .unset] [(.int cc), (.int (at_ + (5 : Int32))), (.ref b1)])) _
            refine Own.go (fun t k => XS.bipush X67.here hx rfl (hb hby at_287) k) ?_
            show Own.Fin p e below (T67.setTop (mkF m 289 #[.val (.int p1), .val (.long q2), .second, .val (.int p3), .val (.int p4), .val (.int cc), .val (.int md), .val (.int at_), .val (.int ln), .val (.int ixx), .val (.int pt), .val (.int po), .val (.ref b1), .unset, .unset, .unset] [(.int (15 : Int32)), (.int cc), (.int (at_ + (5 : Int32))), (.ref b1)])) _
            refine Own.go (fun t k => XS.iand X67.here hx rfl (hb hby at_289) rfl k) ?_
            show Own.Fin p e below (T67.setTop (mkF m 290 #[.val (.int p1), .val (.long q2), .second, .val (.int p3), .val (.int p4), .val (.int cc), .val (.int md), .val (.int at_), .val (.int ln), .val (.int ixx), .val (.int pt), .val (.int po), .val (.ref b1), .unset, .unset, .unset] [(.int (cc &&& (15 : Int32))), (.int (at_ + (5 : Int32))), (.ref b1)])) _
            refine Own.cS X67 hx hZ hown (hw _ (List.mem_of_getElem? (i := 2) rfl)) (hw _ (List.mem_of_getElem? (i := 3) rfl)) (hw _ (List.mem_of_getElem? (i := 4) rfl)) (hw _ (List.mem_of_getElem? (i := 5) rfl)) (by decide) (rm1 l Z a0 hw [] (cc &&& (15 : Int32)) h67 n0 Z67 ) (by decide) (W := 2) (by decide) (argsL := [(.int (cc &&& (15 : Int32)))]) (rest := [(.int (at_ + (5 : Int32))), (.ref b1)]) (by rw [hml]; rfl) (lenOf pd_1 rfl) rfl (Nat.le_of_eq rfl) (hb hby at_290) e67 (by decide) (by decide) ?_
            intro T68 L68 v68 X68 hQ68
            obtain ⟨rfl, N68q, e68⟩ := hQ68
            have N68 := Fr.app N67 N68q
            show Own.Fin p e below (T68.setTop (mkF m 293 #[.val (.int p1), .val (.long q2), .second, .val (.int p3), .val (.int p4), .val (.int cc), .val (.int md), .val (.int at_), .val (.int ln), .val (.int ixx), .val (.int pt), .val (.int po), .val (.ref b1), .unset, .unset, .unset] [(.int (F_hl (cc &&& (15 : Int32)))), (.int (at_ + (5 : Int32))), (.ref b1)])) _
            refine Own.go (fun t k => XS.i2b X68.here hx rfl (hb hby at_293) rfl k) ?_
            show Own.Fin p e below (T68.setTop (mkF m 294 #[.val (.int p1), .val (.long q2), .second, .val (.int p3), .val (.int p4), .val (.int cc), .val (.int md), .val (.int at_), .val (.int ln), .val (.int ixx), .val (.int pt), .val (.int po), .val (.ref b1), .unset, .unset, .unset] [(.int (((F_hl (cc &&& (15 : Int32)))).toInt8.toInt32)), (.int (at_ + (5 : Int32))), (.ref b1)])) _
            refine Own.stB X68 hx hZ e68 V67 (hb hby at_294) (own_at _ 5 5 (by decide) hat (by decide) (by decide)) _ rfl (Nat.lt_of_lt_of_eq (Own.clamp_lt (n := 12) (own_at _ 5 5 (by decide) hat (by decide) (by decide)) (by decide)) hl67.symm) ?_
            intro T69 h69 X69 e69 W69 V69
            have N69 := Fr.snoc X69 N68 ge1
            have Z69 : n0 ≤ h69.size := by rw [W69.size]; exact Z67
            have O69 := O67.wr W69 ge1
            have hl69 := (List.length_set (as := vs67) (i := ((at_ + (5 : Int32))).toNatClampNeg) (a := (.int (nar .byte (((F_hl (cc &&& (15 : Int32)))).toInt8.toInt32))))).trans hl67
            generalize hvs69 : List.set _ _ _ = vs69 at V69 hl69
            show Own.Fin p e below (T69.setTop (mkF m 295 #[.val (.int p1), .val (.long q2), .second, .val (.int p3), .val (.int p4), .val (.int cc), .val (.int md), .val (.int at_), .val (.int ln), .val (.int ixx), .val (.int pt), .val (.int po), .val (.ref b1), .unset, .unset, .unset] [])) _
            refine Own.go (fun t k => XS.goto X69.here hx rfl (pc0 := 295) (pc' := 354) rfl (hb hby at_295) (by decide) (by decide) k) ?_
            show Own.Fin p e below (T69.setTop (mkF m 354 #[.val (.int p1), .val (.long q2), .second, .val (.int p3), .val (.int p4), .val (.int cc), .val (.int md), .val (.int at_), .val (.int ln), .val (.int ixx), .val (.int pt), .val (.int po), .val (.ref b1), .unset, .unset, .unset] [])) _
            exact j354 _ _ _ _ X69 e69 N69 Z69 O69 V69 hl69 
          · skip
            refine Own.go (fun t k => XS.icmpYes X64.here hx rfl (pc0 := 258) (pc' := 298) rfl (hb hby at_258) rfl (feq hc258_64).2 (by decide) (by decide) k) ?_
            show Own.Fin p e below (T64.setTop (mkF m 298 #[.val (.int p1), .val (.long q2), .second, .val (.int p3), .val (.int p4), .val (.int cc), .val (.int md), .val (.int at_), .val (.int ln), .val (.int ixx), .val (.int pt), .val (.int po), .val (.ref b1), .unset, .unset, .unset] [])) _
            refine Own.go (fun t k => XS.aload X64.here hx rfl (hb hby at_298) rfl rfl k) ?_
            show Own.Fin p e below (T64.setTop (mkF m 300 #[.val (.int p1), .val (.long q2), .second, .val (.int p3), .val (.int p4), .val (.int cc), .val (.int md), .val (.int at_), .val (.int ln), .val (.int ixx), .val (.int pt), .val (.int po), .val (.ref b1), .unset, .unset, .unset] [(.ref b1)])) _
            refine Own.go (fun t k => XS.iload X64.here hx rfl (hb hby at_300) rfl k) ?_
            show Own.Fin p e below (T64.setTop (mkF m 302 #[.val (.int p1), .val (.long q2), .second, .val (.int p3), .val (.int p4), .val (.int cc), .val (.int md), .val (.int at_), .val (.int ln), .val (.int ixx), .val (.int pt), .val (.int po), .val (.ref b1), .unset, .unset, .unset] [(.int at_), (.ref b1)])) _
            refine Own.go (fun t k => XS.iconst X64.here hx rfl (hb hby at_302) k) ?_
            show Own.Fin p e below (T64.setTop (mkF m 303 #[.val (.int p1), .val (.long q2), .second, .val (.int p3), .val (.int p4), .val (.int cc), .val (.int md), .val (.int at_), .val (.int ln), .val (.int ixx), .val (.int pt), .val (.int po), .val (.ref b1), .unset, .unset, .unset] [(.int (4 : Int32)), (.int at_), (.ref b1)])) _
            refine Own.go (fun t k => XS.iadd X64.here hx rfl (hb hby at_303) rfl k) ?_
            show Own.Fin p e below (T64.setTop (mkF m 304 #[.val (.int p1), .val (.long q2), .second, .val (.int p3), .val (.int p4), .val (.int cc), .val (.int md), .val (.int at_), .val (.int ln), .val (.int ixx), .val (.int pt), .val (.int po), .val (.ref b1), .unset, .unset, .unset] [(.int (at_ + (4 : Int32))), (.ref b1)])) _
            refine Own.go (fun t k => XS.iload X64.here hx rfl (hb hby at_304) rfl k) ?_
            show Own.Fin p e below (T64.setTop (mkF m 306 #[.val (.int p1), .val (.long q2), .second, .val (.int p3), .val (.int p4), .val (.int cc), .val (.int md), .val (.int at_), .val (.int ln), .val (.int ixx), .val (.int pt), .val (.int po), .val (.ref b1), .unset, .unset, .unset] [(.int cc), (.int (at_ + (4 : Int32))), (.ref b1)])) _
            refine Own.go (fun t k => XS.iconst X64.here hx rfl (hb hby at_306) k) ?_
            show Own.Fin p e below (T64.setTop (mkF m 307 #[.val (.int p1), .val (.long q2), .second, .val (.int p3), .val (.int p4), .val (.int cc), .val (.int md), .val (.int at_), .val (.int ln), .val (.int ixx), .val (.int pt), .val (.int po), .val (.ref b1), .unset, .unset, .unset] [(.int (4 : Int32)), (.int cc), (.int (at_ + (4 : Int32))), (.ref b1)])) _
            refine Own.go (fun t k => XS.ishr X64.here hx rfl (hb hby at_307) rfl k) ?_
            show Own.Fin p e below (T64.setTop (mkF m 308 #[.val (.int p1), .val (.long q2), .second, .val (.int p3), .val (.int p4), .val (.int cc), .val (.int md), .val (.int at_), .val (.int ln), .val (.int ixx), .val (.int pt), .val (.int po), .val (.ref b1), .unset, .unset, .unset] [(.int ((cc >>> ((4 : Int32) &&& 31)))), (.int (at_ + (4 : Int32))), (.ref b1)])) _
            refine Own.go (fun t k => XS.bipush X64.here hx rfl (hb hby at_308) k) ?_
            show Own.Fin p e below (T64.setTop (mkF m 310 #[.val (.int p1), .val (.long q2), .second, .val (.int p3), .val (.int p4), .val (.int cc), .val (.int md), .val (.int at_), .val (.int ln), .val (.int ixx), .val (.int pt), .val (.int po), .val (.ref b1), .unset, .unset, .unset] [(.int (15 : Int32)), (.int ((cc >>> ((4 : Int32) &&& 31)))), (.int (at_ + (4 : Int32))), (.ref b1)])) _
            refine Own.go (fun t k => XS.iand X64.here hx rfl (hb hby at_310) rfl k) ?_
            show Own.Fin p e below (T64.setTop (mkF m 311 #[.val (.int p1), .val (.long q2), .second, .val (.int p3), .val (.int p4), .val (.int cc), .val (.int md), .val (.int at_), .val (.int ln), .val (.int ixx), .val (.int pt), .val (.int po), .val (.ref b1), .unset, .unset, .unset] [(.int (((cc >>> ((4 : Int32) &&& 31))) &&& (15 : Int32))), (.int (at_ + (4 : Int32))), (.ref b1)])) _
            refine Own.cS X64 hx hZ hown (hw _ (List.mem_of_getElem? (i := 15) rfl)) (hw _ (List.mem_of_getElem? (i := 16) rfl)) (hw _ (List.mem_of_getElem? (i := 4) rfl)) (hw _ (List.mem_of_getElem? (i := 17) rfl)) (by decide) (rm4 l Z a0 hw [] (((cc >>> ((4 : Int32) &&& 31))) &&& (15 : Int32)) h64 n0 Z64) (by decide) (W := 2) (by decide) (argsL := [(.int (((cc >>> ((4 : Int32) &&& 31))) &&& (15 : Int32)))]) (rest := [(.int (at_ + (4 : Int32))), (.ref b1)]) (by rw [hml]; rfl) (lenOf pd_1 rfl) rfl (Nat.le_of_eq rfl) (hb hby at_311) e64 (by decide) (by decide) ?_
            intro T70 L70 v70 X70 hQ70
            obtain ⟨z70, rfl, N70q, e70⟩ := hQ70
            have N70 := Fr.app N64 N70q
            show Own.Fin p e below (T70.setTop (mkF m 314 #[.val (.int p1), .val (.long q2), .second, .val (.int p3), .val (.int p4), .val (.int cc), .val (.int md), .val (.int at_), .val (.int ln), .val (.int ixx), .val (.int pt), .val (.int po), .val (.ref b1), .unset, .unset, .unset] [(.int z70), (.int (at_ + (4 : Int32))), (.ref b1)])) _
            refine Own.go (fun t k => XS.i2b X70.here hx rfl (hb hby at_314) rfl k) ?_
            show Own.Fin p e below (T70.setTop (mkF m 315 #[.val (.int p1), .val (.long q2), .second, .val (.int p3), .val (.int p4), .val (.int cc), .val (.int md), .val (.int at_), .val (.int ln), .val (.int ixx), .val (.int pt), .val (.int po), .val (.ref b1), .unset, .unset, .unset] [(.int ((z70).toInt8.toInt32)), (.int (at_ + (4 : Int32))), (.ref b1)])) _
            refine Own.stB X70 hx hZ e70 V64 (hb hby at_315) (own_at _ 4 4 (by decide) hat (by decide) (by decide)) _ rfl (Nat.lt_of_lt_of_eq (Own.clamp_lt (n := 12) (own_at _ 4 4 (by decide) hat (by decide) (by decide)) (by decide)) hl64.symm) ?_
            intro T71 h71 X71 e71 W71 V71
            have N71 := Fr.snoc X71 N70 ge1
            have Z71 : n0 ≤ h71.size := by rw [W71.size]; exact Z64
            have O71 := O64.wr W71 ge1
            have hl71 := (List.length_set (as := vs64) (i := ((at_ + (4 : Int32))).toNatClampNeg) (a := (.int (nar .byte ((z70).toInt8.toInt32))))).trans hl64
            generalize hvs71 : List.set _ _ _ = vs71 at V71 hl71
            show Own.Fin p e below (T71.setTop (mkF m 316 #[.val (.int p1), .val (.long q2), .second, .val (.int p3), .val (.int p4), .val (.int cc), .val (.int md), .val (.int at_), .val (.int ln), .val (.int ixx), .val (.int pt), .val (.int po), .val (.ref b1), .unset, .unset, .unset] [])) _
            refine Own.go (fun t k => XS.aload X71.here hx rfl (hb hby at_316) rfl rfl k) ?_
            show Own.Fin p e below (T71.setTop (mkF m 318 #[.val (.int p1), .val (.long q2), .second, .val (.int p3), .val (.int p4), .val (.int cc), .val (.int md), .val (.int at_), .val (.int ln), .val (.int ixx), .val (.int pt), .val (.int po), .val (.ref b1), .unset, .unset, .unset] [(.ref b1)])) _
            refine Own.go (fun t k => XS.iload X71.here hx rfl (hb hby at_318) rfl k) ?_
            show Own.Fin p e below (T71.setTop (mkF m 320 #[.val (.int p1), .val (.long q2), .second, .val (.int p3), .val (.int p4), .val (.int cc), .val (.int md), .val (.int at_), .val (.int ln), .val (.int ixx), .val (.int pt), .val (.int po), .val (.ref b1), .unset, .unset, .unset] [(.int at_), (.ref b1)])) _
            refine Own.go (fun t k => XS.iconst X71.here hx rfl (hb hby at_320) k) ?_
            show Own.Fin p e below (T71.setTop (mkF m 321 #[.val (.int p1), .val (.long q2), .second, .val (.int p3), .val (.int p4), .val (.int cc), .val (.int md), .val (.int at_), .val (.int ln), .val (.int ixx), .val (.int pt), .val (.int po), .val (.ref b1), .unset, .unset, .unset] [(.int (5 : Int32)), (.int at_), (.ref b1)])) _
            refine Own.go (fun t k => XS.iadd X71.here hx rfl (hb hby at_321) rfl k) ?_
            show Own.Fin p e below (T71.setTop (mkF m 322 #[.val (.int p1), .val (.long q2), .second, .val (.int p3), .val (.int p4), .val (.int cc), .val (.int md), .val (.int at_), .val (.int ln), .val (.int ixx), .val (.int pt), .val (.int po), .val (.ref b1), .unset, .unset, .unset] [(.int (at_ + (5 : Int32))), (.ref b1)])) _
            refine Own.go (fun t k => XS.iload X71.here hx rfl (hb hby at_322) rfl k) ?_
            show Own.Fin p e below (T71.setTop (mkF m 324 #[.val (.int p1), .val (.long q2), .second, .val (.int p3), .val (.int p4), .val (.int cc), .val (.int md), .val (.int at_), .val (.int ln), .val (.int ixx), .val (.int pt), .val (.int po), .val (.ref b1), .unset, .unset, .unset] [(.int cc), (.int (at_ + (5 : Int32))), (.ref b1)])) _
            refine Own.go (fun t k => XS.bipush X71.here hx rfl (hb hby at_324) k) ?_
            show Own.Fin p e below (T71.setTop (mkF m 326 #[.val (.int p1), .val (.long q2), .second, .val (.int p3), .val (.int p4), .val (.int cc), .val (.int md), .val (.int at_), .val (.int ln), .val (.int ixx), .val (.int pt), .val (.int po), .val (.ref b1), .unset, .unset, .unset] [(.int (15 : Int32)), (.int cc), (.int (at_ + (5 : Int32))), (.ref b1)])) _
            refine Own.go (fun t k => XS.iand X71.here hx rfl (hb hby at_326) rfl k) ?_
            show Own.Fin p e below (T71.setTop (mkF m 327 #[.val (.int p1), .val (.long q2), .second, .val (.int p3), .val (.int p4), .val (.int cc), .val (.int md), .val (.int at_), .val (.int ln), .val (.int ixx), .val (.int pt), .val (.int po), .val (.ref b1), .unset, .unset, .unset] [(.int (cc &&& (15 : Int32))), (.int (at_ + (5 : Int32))), (.ref b1)])) _
            refine Own.cS X71 hx hZ hown (hw _ (List.mem_of_getElem? (i := 15) rfl)) (hw _ (List.mem_of_getElem? (i := 16) rfl)) (hw _ (List.mem_of_getElem? (i := 4) rfl)) (hw _ (List.mem_of_getElem? (i := 17) rfl)) (by decide) (rm4 l Z a0 hw [] (cc &&& (15 : Int32)) h71 n0 Z71) (by decide) (W := 2) (by decide) (argsL := [(.int (cc &&& (15 : Int32)))]) (rest := [(.int (at_ + (5 : Int32))), (.ref b1)]) (by rw [hml]; rfl) (lenOf pd_1 rfl) rfl (Nat.le_of_eq rfl) (hb hby at_327) e71 (by decide) (by decide) ?_
            intro T72 L72 v72 X72 hQ72
            obtain ⟨z72, rfl, N72q, e72⟩ := hQ72
            have N72 := Fr.app N71 N72q
            show Own.Fin p e below (T72.setTop (mkF m 330 #[.val (.int p1), .val (.long q2), .second, .val (.int p3), .val (.int p4), .val (.int cc), .val (.int md), .val (.int at_), .val (.int ln), .val (.int ixx), .val (.int pt), .val (.int po), .val (.ref b1), .unset, .unset, .unset] [(.int z72), (.int (at_ + (5 : Int32))), (.ref b1)])) _
            refine Own.go (fun t k => XS.i2b X72.here hx rfl (hb hby at_330) rfl k) ?_
            show Own.Fin p e below (T72.setTop (mkF m 331 #[.val (.int p1), .val (.long q2), .second, .val (.int p3), .val (.int p4), .val (.int cc), .val (.int md), .val (.int at_), .val (.int ln), .val (.int ixx), .val (.int pt), .val (.int po), .val (.ref b1), .unset, .unset, .unset] [(.int ((z72).toInt8.toInt32)), (.int (at_ + (5 : Int32))), (.ref b1)])) _
            refine Own.stB X72 hx hZ e72 V71 (hb hby at_331) (own_at _ 5 5 (by decide) hat (by decide) (by decide)) _ rfl (Nat.lt_of_lt_of_eq (Own.clamp_lt (n := 12) (own_at _ 5 5 (by decide) hat (by decide) (by decide)) (by decide)) hl71.symm) ?_
            intro T73 h73 X73 e73 W73 V73
            have N73 := Fr.snoc X73 N72 ge1
            have Z73 : n0 ≤ h73.size := by rw [W73.size]; exact Z71
            have O73 := O71.wr W73 ge1
            have hl73 := (List.length_set (as := vs71) (i := ((at_ + (5 : Int32))).toNatClampNeg) (a := (.int (nar .byte ((z72).toInt8.toInt32))))).trans hl71
            generalize hvs73 : List.set _ _ _ = vs73 at V73 hl73
            show Own.Fin p e below (T73.setTop (mkF m 332 #[.val (.int p1), .val (.long q2), .second, .val (.int p3), .val (.int p4), .val (.int cc), .val (.int md), .val (.int at_), .val (.int ln), .val (.int ixx), .val (.int pt), .val (.int po), .val (.ref b1), .unset, .unset, .unset] [])) _
            refine Own.go (fun t k => XS.goto X73.here hx rfl (pc0 := 332) (pc' := 354) rfl (hb hby at_332) (by decide) (by decide) k) ?_
            show Own.Fin p e below (T73.setTop (mkF m 354 #[.val (.int p1), .val (.long q2), .second, .val (.int p3), .val (.int p4), .val (.int cc), .val (.int md), .val (.int at_), .val (.int ln), .val (.int ixx), .val (.int pt), .val (.int po), .val (.ref b1), .unset, .unset, .unset] [])) _
            exact j354 _ _ _ _ X73 e73 N73 Z73 O73 V73 hl73 
        · skip
          refine Own.go (fun t k => XS.icmpYes X14.here hx rfl (pc0 := 225) (pc' := 335) rfl (hb hby at_225) rfl (feq hc225_60).2 (by decide) (by decide) k) ?_
          show Own.Fin p e below (T14.setTop (mkF m 335 #[.val (.int p1), .val (.long q2), .second, .val (.int p3), .val (.int p4), .val (.int cc), .val (.int md), .val (.int at_), .val (.int ln), .val (.int ixx), .val (.int pt), .val (.int po), .val (.ref b1), .unset, .unset, .unset] [])) _
          refine Own.go (fun t k => XS.iload X14.here hx rfl (hb hby at_335) rfl k) ?_
          show Own.Fin p e below (T14.setTop (mkF m 337 #[.val (.int p1), .val (.long q2), .second, .val (.int p3), .val (.int p4), .val (.int cc), .val (.int md), .val (.int at_), .val (.int ln), .val (.int ixx), .val (.int pt), .val (.int po), .val (.ref b1), .unset, .unset, .unset] [(.int md)])) _
          refine Own.go (fun t k => XS.iconst X14.here hx rfl (hb hby at_337) k) ?_
          show Own.Fin p e below (T14.setTop (mkF m 338 #[.val (.int p1), .val (.long q2), .second, .val (.int p3), .val (.int p4), .val (.int cc), .val (.int md), .val (.int at_), .val (.int ln), .val (.int ixx), .val (.int pt), .val (.int po), .val (.ref b1), .unset, .unset, .unset] [(.int (2 : Int32)), (.int md)])) _
          by_cases hc338_73 : md = (2 : Int32)
          · skip
            refine Own.go (fun t k => XS.icmpNo X14.here hx rfl (hb hby at_338) rfl (teq hc338_73).2 k) ?_
            show Own.Fin p e below (T14.setTop (mkF m 341 #[.val (.int p1), .val (.long q2), .second, .val (.int p3), .val (.int p4), .val (.int cc), .val (.int md), .val (.int at_), .val (.int ln), .val (.int ixx), .val (.int pt), .val (.int po), .val (.ref b1), .unset, .unset, .unset] [])) _
            refine Own.go (fun t k => XS.aload X14.here hx rfl (hb hby at_341) rfl rfl k) ?_
            show Own.Fin p e below (T14.setTop (mkF m 343 #[.val (.int p1), .val (.long q2), .second, .val (.int p3), .val (.int p4), .val (.int cc), .val (.int md), .val (.int at_), .val (.int ln), .val (.int ixx), .val (.int pt), .val (.int po), .val (.ref b1), .unset, .unset, .unset] [(.ref b1)])) _
            refine Own.go (fun t k => XS.iload X14.here hx rfl (hb hby at_343) rfl k) ?_
            show Own.Fin p e below (T14.setTop (mkF m 345 #[.val (.int p1), .val (.long q2), .second, .val (.int p3), .val (.int p4), .val (.int cc), .val (.int md), .val (.int at_), .val (.int ln), .val (.int ixx), .val (.int pt), .val (.int po), .val (.ref b1), .unset, .unset, .unset] [(.int at_), (.ref b1)])) _
            refine Own.go (fun t k => XS.iconst X14.here hx rfl (hb hby at_345) k) ?_
            show Own.Fin p e below (T14.setTop (mkF m 346 #[.val (.int p1), .val (.long q2), .second, .val (.int p3), .val (.int p4), .val (.int cc), .val (.int md), .val (.int at_), .val (.int ln), .val (.int ixx), .val (.int pt), .val (.int po), .val (.ref b1), .unset, .unset, .unset] [(.int (1 : Int32)), (.int at_), (.ref b1)])) _
            refine Own.go (fun t k => XS.iadd X14.here hx rfl (hb hby at_346) rfl k) ?_
            show Own.Fin p e below (T14.setTop (mkF m 347 #[.val (.int p1), .val (.long q2), .second, .val (.int p3), .val (.int p4), .val (.int cc), .val (.int md), .val (.int at_), .val (.int ln), .val (.int ixx), .val (.int pt), .val (.int po), .val (.ref b1), .unset, .unset, .unset] [(.int (at_ + (1 : Int32))), (.ref b1)])) _
            refine Own.go (fun t k => XS.iload X14.here hx rfl (hb hby at_347) rfl k) ?_
            show Own.Fin p e below (T14.setTop (mkF m 349 #[.val (.int p1), .val (.long q2), .second, .val (.int p3), .val (.int p4), .val (.int cc), .val (.int md), .val (.int at_), .val (.int ln), .val (.int ixx), .val (.int pt), .val (.int po), .val (.ref b1), .unset, .unset, .unset] [(.int ixx), (.int (at_ + (1 : Int32))), (.ref b1)])) _
            refine Own.cS X14 hx hZ hown (hw _ (List.mem_of_getElem? (i := 18) rfl)) (hw _ (List.mem_of_getElem? (i := 19) rfl)) (hw _ (List.mem_of_getElem? (i := 4) rfl)) (hw _ (List.mem_of_getElem? (i := 20) rfl)) (by decide) (rm5 l Z a0 hw [] ixx h14 n0 Z14) (by decide) (W := 2) (by decide) (argsL := [(.int ixx)]) (rest := [(.int (at_ + (1 : Int32))), (.ref b1)]) (by rw [hml]; rfl) (lenOf pd_1 rfl) rfl (Nat.le_of_eq rfl) (hb hby at_349) e14 (by decide) (by decide) ?_
            intro T75 L75 v75 X75 hQ75
            obtain ⟨z75, rfl, N75q, e75⟩ := hQ75
            have N75 := Fr.app N14 N75q
            show Own.Fin p e below (T75.setTop (mkF m 352 #[.val (.int p1), .val (.long q2), .second, .val (.int p3), .val (.int p4), .val (.int cc), .val (.int md), .val (.int at_), .val (.int ln), .val (.int ixx), .val (.int pt), .val (.int po), .val (.ref b1), .unset, .unset, .unset] [(.int z75), (.int (at_ + (1 : Int32))), (.ref b1)])) _
            refine Own.go (fun t k => XS.i2b X75.here hx rfl (hb hby at_352) rfl k) ?_
            show Own.Fin p e below (T75.setTop (mkF m 353 #[.val (.int p1), .val (.long q2), .second, .val (.int p3), .val (.int p4), .val (.int cc), .val (.int md), .val (.int at_), .val (.int ln), .val (.int ixx), .val (.int pt), .val (.int po), .val (.ref b1), .unset, .unset, .unset] [(.int ((z75).toInt8.toInt32)), (.int (at_ + (1 : Int32))), (.ref b1)])) _
            refine Own.stB X75 hx hZ e75 V14 (hb hby at_353) (own_at _ 1 1 (by decide) hat (by decide) (by decide)) _ rfl (Nat.lt_of_lt_of_eq (Own.clamp_lt (n := 12) (own_at _ 1 1 (by decide) hat (by decide) (by decide)) (by decide)) hl14.symm) ?_
            intro T76 h76 X76 e76 W76 V76
            have N76 := Fr.snoc X76 N75 ge1
            have Z76 : n0 ≤ h76.size := by rw [W76.size]; exact Z14
            have O76 := O14.wr W76 ge1
            have hl76 := (List.length_set (as := vs14) (i := ((at_ + (1 : Int32))).toNatClampNeg) (a := (.int (nar .byte ((z75).toInt8.toInt32))))).trans hl14
            generalize hvs76 : List.set _ _ _ = vs76 at V76 hl76
            show Own.Fin p e below (T76.setTop (mkF m 354 #[.val (.int p1), .val (.long q2), .second, .val (.int p3), .val (.int p4), .val (.int cc), .val (.int md), .val (.int at_), .val (.int ln), .val (.int ixx), .val (.int pt), .val (.int po), .val (.ref b1), .unset, .unset, .unset] [])) _
            exact j354 _ _ _ _ X76 e76 N76 Z76 O76 V76 hl76 
          · skip
            refine Own.go (fun t k => XS.icmpYes X14.here hx rfl (pc0 := 338) (pc' := 354) rfl (hb hby at_338) rfl (feq hc338_73).2 (by decide) (by decide) k) ?_
            show Own.Fin p e below (T14.setTop (mkF m 354 #[.val (.int p1), .val (.long q2), .second, .val (.int p3), .val (.int p4), .val (.int cc), .val (.int md), .val (.int at_), .val (.int ln), .val (.int ixx), .val (.int pt), .val (.int po), .val (.ref b1), .unset, .unset, .unset] [])) _
            exact j354 _ _ _ _ X14 e14 N14 Z14 O14 V14 hl14 
    refine Own.go (fun t k => XS.iloadN X0.here hx rfl (hb hby at_51) rfl k) ?_
    show Own.Fin p e below (s₁.setTop (mkF m 52 #[.val (.int p1), .val (.long q2), .second, .val (.int p3), .val (.int p4), .val (.int cc), .val (.int md), .val (.int at_), .val (.int ln), .val (.int ixx), .unset, .unset, .unset, .unset, .unset, .unset] [(.int p3)])) _
    refine Own.go (fun t k => XS.bipush X0.here hx rfl (hb hby at_52) k) ?_
    show Own.Fin p e below (s₁.setTop (mkF m 54 #[.val (.int p1), .val (.long q2), .second, .val (.int p3), .val (.int p4), .val (.int cc), .val (.int md), .val (.int at_), .val (.int ln), .val (.int ixx), .unset, .unset, .unset, .unset, .unset, .unset] [(.int (10 : Int32)), (.int p3)])) _
    refine Own.go (fun t k => XS.iushr X0.here hx rfl (hb hby at_54) rfl k) ?_
    show Own.Fin p e below (s₁.setTop (mkF m 55 #[.val (.int p1), .val (.long q2), .second, .val (.int p3), .val (.int p4), .val (.int cc), .val (.int md), .val (.int at_), .val (.int ln), .val (.int ixx), .unset, .unset, .unset, .unset, .unset, .unset] [(.int (((p3).toUInt32 >>> ((10 : Int32) &&& 31).toUInt32).toInt32))])) _
    refine Own.go (fun t k => XS.iconst X0.here hx rfl (hb hby at_55) k) ?_
    show Own.Fin p e below (s₁.setTop (mkF m 56 #[.val (.int p1), .val (.long q2), .second, .val (.int p3), .val (.int p4), .val (.int cc), .val (.int md), .val (.int at_), .val (.int ln), .val (.int ixx), .unset, .unset, .unset, .unset, .unset, .unset] [(.int (1 : Int32)), (.int (((p3).toUInt32 >>> ((10 : Int32) &&& 31).toUInt32).toInt32))])) _
    refine Own.go (fun t k => XS.iand X0.here hx rfl (hb hby at_56) rfl k) ?_
    show Own.Fin p e below (s₁.setTop (mkF m 57 #[.val (.int p1), .val (.long q2), .second, .val (.int p3), .val (.int p4), .val (.int cc), .val (.int md), .val (.int at_), .val (.int ln), .val (.int ixx), .unset, .unset, .unset, .unset, .unset, .unset] [(.int ((((p3).toUInt32 >>> ((10 : Int32) &&& 31).toUInt32).toInt32) &&& (1 : Int32)))])) _
    by_cases hc57_76 : ((((p3).toUInt32 >>> ((10 : Int32) &&& 31).toUInt32).toInt32) &&& (1 : Int32)) = (0 : Int32)
    · skip
      refine Own.go (fun t k => XS.ifYes X0.here hx rfl (pc0 := 57) (pc' := 64) rfl (hb hby at_57) rfl ((if0 _ _).trans (teq hc57_76).1) (by decide) (by decide) k) ?_
      show Own.Fin p e below (s₁.setTop (mkF m 64 #[.val (.int p1), .val (.long q2), .second, .val (.int p3), .val (.int p4), .val (.int cc), .val (.int md), .val (.int at_), .val (.int ln), .val (.int ixx), .unset, .unset, .unset, .unset, .unset, .unset] [])) _
      refine Own.go (fun t k => XS.iconst X0.here hx rfl (hb hby at_64) k) ?_
      show Own.Fin p e below (s₁.setTop (mkF m 65 #[.val (.int p1), .val (.long q2), .second, .val (.int p3), .val (.int p4), .val (.int cc), .val (.int md), .val (.int at_), .val (.int ln), .val (.int ixx), .unset, .unset, .unset, .unset, .unset, .unset] [(.int (0 : Int32))])) _
      exact j65 _
    · skip
      refine Own.go (fun t k => XS.ifNo X0.here hx rfl (hb hby at_57) rfl ((if0 _ _).trans (feq hc57_76).1) k) ?_
      show Own.Fin p e below (s₁.setTop (mkF m 60 #[.val (.int p1), .val (.long q2), .second, .val (.int p3), .val (.int p4), .val (.int cc), .val (.int md), .val (.int at_), .val (.int ln), .val (.int ixx), .unset, .unset, .unset, .unset, .unset, .unset] [])) _
      refine Own.go (fun t k => XS.iconst X0.here hx rfl (hb hby at_60) k) ?_
      show Own.Fin p e below (s₁.setTop (mkF m 61 #[.val (.int p1), .val (.long q2), .second, .val (.int p3), .val (.int p4), .val (.int cc), .val (.int md), .val (.int at_), .val (.int ln), .val (.int ixx), .unset, .unset, .unset, .unset, .unset, .unset] [(.int (1 : Int32))])) _
      refine Own.go (fun t k => XS.goto X0.here hx rfl (pc0 := 61) (pc' := 65) rfl (hb hby at_61) (by decide) (by decide) k) ?_
      show Own.Fin p e below (s₁.setTop (mkF m 65 #[.val (.int p1), .val (.long q2), .second, .val (.int p3), .val (.int p4), .val (.int cc), .val (.int md), .val (.int at_), .val (.int ln), .val (.int ixx), .unset, .unset, .unset, .unset, .unset, .unset] [(.int (1 : Int32))])) _
      exact j65 _
  show Own.Fin p e below (s₁.setTop (mkF m 0 #[.val (.int p1), .val (.long q2), .second, .val (.int p3), .val (.int p4), .unset, .unset, .unset, .unset, .unset, .unset, .unset, .unset, .unset, .unset, .unset] [])) _
  refine Own.go (fun t k => XS.iloadN X0.here hx rfl (hb hby at_0) rfl k) ?_
  show Own.Fin p e below (s₁.setTop (mkF m 1 #[.val (.int p1), .val (.long q2), .second, .val (.int p3), .val (.int p4), .unset, .unset, .unset, .unset, .unset, .unset, .unset, .unset, .unset, .unset, .unset] [(.int p1)])) _
  refine Own.go (fun t k => XS.bipush X0.here hx rfl (hb hby at_1) k) ?_
  show Own.Fin p e below (s₁.setTop (mkF m 3 #[.val (.int p1), .val (.long q2), .second, .val (.int p3), .val (.int p4), .unset, .unset, .unset, .unset, .unset, .unset, .unset, .unset, .unset, .unset, .unset] [(.int (16 : Int32)), (.int p1)])) _
  refine Own.go (fun t k => XS.iushr X0.here hx rfl (hb hby at_3) rfl k) ?_
  show Own.Fin p e below (s₁.setTop (mkF m 4 #[.val (.int p1), .val (.long q2), .second, .val (.int p3), .val (.int p4), .unset, .unset, .unset, .unset, .unset, .unset, .unset, .unset, .unset, .unset, .unset] [(.int (((p1).toUInt32 >>> ((16 : Int32) &&& 31).toUInt32).toInt32))])) _
  refine Own.go (fun t k => XS.iconst X0.here hx rfl (hb hby at_4) k) ?_
  show Own.Fin p e below (s₁.setTop (mkF m 5 #[.val (.int p1), .val (.long q2), .second, .val (.int p3), .val (.int p4), .unset, .unset, .unset, .unset, .unset, .unset, .unset, .unset, .unset, .unset, .unset] [(.int (1 : Int32)), (.int (((p1).toUInt32 >>> ((16 : Int32) &&& 31).toUInt32).toInt32))])) _
  refine Own.go (fun t k => XS.iand X0.here hx rfl (hb hby at_5) rfl k) ?_
  show Own.Fin p e below (s₁.setTop (mkF m 6 #[.val (.int p1), .val (.long q2), .second, .val (.int p3), .val (.int p4), .unset, .unset, .unset, .unset, .unset, .unset, .unset, .unset, .unset, .unset, .unset] [(.int ((((p1).toUInt32 >>> ((16 : Int32) &&& 31).toUInt32).toInt32) &&& (1 : Int32)))])) _
  by_cases hc6_77 : ((((p1).toUInt32 >>> ((16 : Int32) &&& 31).toUInt32).toInt32) &&& (1 : Int32)) = (0 : Int32)
  · skip
    refine Own.go (fun t k => XS.ifYes X0.here hx rfl (pc0 := 6) (pc' := 16) rfl (hb hby at_6) rfl ((if0 _ _).trans (teq hc6_77).1) (by decide) (by decide) k) ?_
    show Own.Fin p e below (s₁.setTop (mkF m 16 #[.val (.int p1), .val (.long q2), .second, .val (.int p3), .val (.int p4), .unset, .unset, .unset, .unset, .unset, .unset, .unset, .unset, .unset, .unset, .unset] [])) _
    refine Own.go (fun t k => XS.iloadN X0.here hx rfl (hb hby at_16) rfl k) ?_
    show Own.Fin p e below (s₁.setTop (mkF m 17 #[.val (.int p1), .val (.long q2), .second, .val (.int p3), .val (.int p4), .unset, .unset, .unset, .unset, .unset, .unset, .unset, .unset, .unset, .unset, .unset] [(.int p1)])) _
    refine Own.go (fun t k => X0.ldcInt hx hown (mvT hZ (hw _ (List.mem_of_getElem? (i := 0) rfl))) (g := (mkF m 17 #[.val (.int p1), .val (.long q2), .second, .val (.int p3), .val (.int p4), .unset, .unset, .unset, .unset, .unset, .unset, .unset, .unset, .unset, .unset, .unset] [(.int p1)])) rfl (hb hby at_17) _ k) ?_
    show Own.Fin p e below (s₁.setTop (mkF m 19 #[.val (.int p1), .val (.long q2), .second, .val (.int p3), .val (.int p4), .unset, .unset, .unset, .unset, .unset, .unset, .unset, .unset, .unset, .unset, .unset] [(.int (65535 : Int32)), (.int p1)])) _
    refine Own.go (fun t k => XS.iand X0.here hx rfl (hb hby at_19) rfl k) ?_
    show Own.Fin p e below (s₁.setTop (mkF m 20 #[.val (.int p1), .val (.long q2), .second, .val (.int p3), .val (.int p4), .unset, .unset, .unset, .unset, .unset, .unset, .unset, .unset, .unset, .unset, .unset] [(.int (p1 &&& (65535 : Int32)))])) _
    exact j20 _ (by first | (have h := c_and p1 127 (by decide); rw [show (127 : Int32).toInt = 127 by decide] at h; omega) | (have h := c_and p1 65535 (by decide); rw [show (65535 : Int32).toInt = 65535 by decide] at h; omega))
  · skip
    refine Own.go (fun t k => XS.ifNo X0.here hx rfl (hb hby at_6) rfl ((if0 _ _).trans (feq hc6_77).1) k) ?_
    show Own.Fin p e below (s₁.setTop (mkF m 9 #[.val (.int p1), .val (.long q2), .second, .val (.int p3), .val (.int p4), .unset, .unset, .unset, .unset, .unset, .unset, .unset, .unset, .unset, .unset, .unset] [])) _
    refine Own.go (fun t k => XS.iloadN X0.here hx rfl (hb hby at_9) rfl k) ?_
    show Own.Fin p e below (s₁.setTop (mkF m 10 #[.val (.int p1), .val (.long q2), .second, .val (.int p3), .val (.int p4), .unset, .unset, .unset, .unset, .unset, .unset, .unset, .unset, .unset, .unset, .unset] [(.int p1)])) _
    refine Own.go (fun t k => XS.bipush X0.here hx rfl (hb hby at_10) k) ?_
    show Own.Fin p e below (s₁.setTop (mkF m 12 #[.val (.int p1), .val (.long q2), .second, .val (.int p3), .val (.int p4), .unset, .unset, .unset, .unset, .unset, .unset, .unset, .unset, .unset, .unset, .unset] [(.int (127 : Int32)), (.int p1)])) _
    refine Own.go (fun t k => XS.iand X0.here hx rfl (hb hby at_12) rfl k) ?_
    show Own.Fin p e below (s₁.setTop (mkF m 13 #[.val (.int p1), .val (.long q2), .second, .val (.int p3), .val (.int p4), .unset, .unset, .unset, .unset, .unset, .unset, .unset, .unset, .unset, .unset, .unset] [(.int (p1 &&& (127 : Int32)))])) _
    refine Own.go (fun t k => XS.goto X0.here hx rfl (pc0 := 13) (pc' := 20) rfl (hb hby at_13) (by decide) (by decide) k) ?_
    show Own.Fin p e below (s₁.setTop (mkF m 20 #[.val (.int p1), .val (.long q2), .second, .val (.int p3), .val (.int p4), .unset, .unset, .unset, .unset, .unset, .unset, .unset, .unset, .unset, .unset, .unset] [(.int (p1 &&& (127 : Int32)))])) _
    exact j20 _ (by first | (have h := c_and p1 127 (by decide); rw [show (127 : Int32).toInt = 127 by decide] at h; omega) | (have h := c_and p1 65535 (by decide); rw [show (65535 : Int32).toInt = 65535 by decide] at h; omega))
theorem own_size {n : Nat} {z : Int32} {k : Nat} (h : n < 2 ^ 31) (e : n.toInt32 = z) (hk : z.toInt = k) : n = k := by
  have h1 := len_toInt h
  rw [e, hk] at h1
  omega
theorem own_nn {j : Int32} (h : ¬ j < 0) : 0 ≤ j.toInt := by
  rw [Int32.lt_iff_toInt_lt, show (0 : Int32).toInt = 0 by decide] at h
  omega
theorem own_lt128 {j : Int32} (h : j < (128 : Int32)) : j.toInt < 128 := by
  rw [Int32.lt_iff_toInt_lt, show (128 : Int32).toInt = 128 by decide] at h
  exact h
def own_tl : List Int32 := [117, 117, 117, 117, 117, 117, 117, 117, 98, 116, 110, 117, 102, 114, 117, 117, 117, 117, 117, 117, 117, 117, 117, 117, 117, 117, 117, 117, 117, 117, 117, 117, 0, 0, 34, 0, 0, 0, 0, 0, 0, 0, 0, 0, 0, 0, 0, 0, 0, 0, 0, 0, 0, 0, 0, 0, 0, 0, 0, 0, 0, 0, 0, 0, 0, 0, 0, 0, 0, 0, 0, 0, 0, 0, 0, 0, 0, 0, 0, 0, 0, 0, 0, 0, 0, 0, 0, 0, 0, 0, 0, 0, 92, 0, 0, 0, 0, 0, 0, 0, 0, 0, 0, 0, 0, 0, 0, 0, 0, 0, 0, 0, 0, 0, 0, 0, 0, 0, 0, 0, 0, 0, 0, 0, 0, 0, 0, 0]
theorem own_tabv : ∀ k : Nat, k < 128 → F_tab (Int32.ofNat k) = own_tl.getD k 0 := by decide +kernel
theorem own_jt : ∀ k : Nat, k < 128 → (Int32.ofNat k).toInt = k := fun k hk => Int32.toInt_ofNat_small (by omega)
theorem own_get117a : ∀ k : Nat, k < 32 → (k < 8 ∨ (14 ≤ k ∧ k < 32)) → own_tl.getD k 0 = 117 := by decide +kernel
theorem own_get117 (k : Nat) (h : k < 8 ∨ (14 ≤ k ∧ k < 32)) : own_tl.getD k 0 = 117 := own_get117a k (by omega) h
theorem own_get0a : ∀ k : Nat, k < 128 → ((35 ≤ k ∧ k < 92) ∨ 93 ≤ k) → own_tl.getD k 0 = 0 := by decide +kernel
theorem own_get0 (k : Nat) (h : (35 ≤ k ∧ k < 92) ∨ 93 ≤ k) (hk : k < 128) : own_tl.getD k 0 = 0 := own_get0a k hk h
theorem own_or_e {args : Array Value} {first s : State} {o : Option Outcome} {idx : List Nat} {c d : Cond} (h : (Cond.or c d).value args first o s idx = some true) (hc : c.value args first o s idx = some false) : d.value args first o s idx = some true := by
  simpa [Cond.value, hc] using h
theorem own_nle {j m : Int32} {k : Nat} {mm : Int} (hj : j.toInt = k) (hm : m.toInt = mm) (h : (k : Int) < mm) : ¬ m ≤ j := by
  rw [Int32.le_iff_toInt_le, hj, hm]; omega
theorem own_nlt {j m : Int32} {k : Nat} {mm : Int} (hj : j.toInt = k) (hm : m.toInt = mm) (h : mm ≤ (k : Int)) : ¬ j < m := by
  rw [Int32.lt_iff_toInt_lt, hj, hm]; omega
theorem own_hl1 (j x : Int32) (q : j < 10) (h : x.toInt64 = j.toInt64 + 48) : x = F_hl j := by
  unfold F_hl
  rw [if_pos q]
  apply Int32.toInt_inj.mp
  have h1 := congrArg Int64.toInt h
  rw [c_i2l] at h1
  have h2 := c_ladd j.toInt64 48
  rw [c_i2l, show (48 : Int64).toInt = 48 by decide] at h2
  have h3 := c_iadd 48 j
  rw [show (48 : Int32).toInt = 48 by decide] at h3
  have b1 := ((48 : Int32) + j).toInt_lt; have b2 := ((48 : Int32) + j).le_toInt
  have b3 := x.toInt_lt; have b4 := x.le_toInt
  have b5 := (j.toInt64 + 48).toInt_lt; have b6 := (j.toInt64 + 48).le_toInt
  have b7 := j.toInt_lt; have b8 := j.le_toInt
  omega
theorem own_hl2 (j x : Int32) (q : ¬ j < 10) (j0 : ¬ j < 0) (j1 : j < 16) (h : x.toInt64 = j.toInt64 + 87) : x = F_hl j := by
  unfold F_hl
  rw [if_neg q]
  apply Int32.toInt_inj.mp
  have h1 := congrArg Int64.toInt h
  rw [c_i2l] at h1
  have h2 := c_ladd j.toInt64 87
  rw [c_i2l, show (87 : Int64).toInt = 87 by decide] at h2
  have h3 := c_isub j 10
  have h4 := c_iadd 97 (j - 10)
  rw [show (10 : Int32).toInt = 10 by decide] at h3
  rw [show (97 : Int32).toInt = 97 by decide] at h4
  rw [Int32.lt_iff_toInt_lt, show (0 : Int32).toInt = 0 by decide] at j0
  rw [Int32.lt_iff_toInt_lt, show (16 : Int32).toInt = 16 by decide] at j1
  have b1 := ((97 : Int32) + (j - 10)).toInt_lt; have b2 := ((97 : Int32) + (j - 10)).le_toInt
  have b3 := (j - 10).toInt_lt; have b4 := (j - 10).le_toInt
  have b5 := (j.toInt64 + 87).toInt_lt; have b6 := (j.toInt64 + 87).le_toInt
  omega
set_option maxRecDepth 65536 in
set_option maxHeartbeats 40000000 in
theorem comes_1 {Post : Tables → Env → Array Value → State → Outcome → State → Prop} (hpost : ∀ tb e args s v u, (limb_1_1.after args s (.returned v) u = true ∧ limb_1_2.after args s (.returned v) u = true ∧ True) → FrameEnd s (.returned v) u (Jvm.fieldLocs frame_1_writes args s ++ Jvm.arrayLocs frame_1_arrays args s ++ Jvm.staticLocs frame_1_statics s) 16 128 → Post tb e args s (.returned v) u) :
    ArmFor flags0 classFile x code maxLocals ret World_1 tables_1 room_1 Calls_1 rest_1 Pre_1 Post := by
  intro l hfl _ _ p e ha hc hk s m args below hf hA hF happ hP
  obtain ⟨hcalls, hrest, hpre⟩ := hP
  obtain ⟨-, -, -, hnamed, -, -, -, hat⟩ := (Spec.applies_iff hf).mp happ
  obtain ⟨hg, hn⟩ := and_e (Cond.before_iff.mp (show (Jvm.Cond.and given_1 narrow_1).before args s = true from hpre))
  obtain ⟨g1, g2⟩ := and_e hg
  obtain ⟨g3, g4⟩ := and_e g2
  obtain ⟨g5, g6⟩ := and_e g4
  obtain ⟨g7, g8⟩ := and_e g6
  obtain ⟨w0, w1, w2, w3, rfl⟩ : ∃ w0 w1 w2 w3 : Value, args = #[w0, w1, w2, w3] := by
    have hs : args.size = 4 := by simpa [Cond.value, given_1] using g1
    obtain ⟨L⟩ := args
    match L, hs with
    | [w0, w1, w2, w3], _ => exact ⟨w0, w1, w2, w3, rfl⟩
  have hw := fun d (hd : d ∈ tables_1) => atoms_spec (ws := Jvm.Cond.code x code maxLocals ret :: tables_1) hat d (List.mem_cons_of_mem _ hd)
  have hfit : Fit s := fun {y c} hc i hi => by
    obtain ⟨ha, rfl⟩ := Array.getElem?_eq_some_iff.mp hc
    have q := List.all_eq_true.mp ((Array.all_eq_true_iff_forall_mem.mp hF) _ (Array.getElem_mem ha)) i (List.mem_range.mpr hi)
    simpa [Array.getElem?_eq_getElem hi] using q
  obtain ⟨i0, ei0⟩ := is_v g3
  obtain rfl : w0 = (.int i0) := Option.some.inj ei0
  obtain ⟨i1, ei1⟩ := isL_v g5
  obtain rfl : w1 = (.long i1) := Option.some.inj ei1
  obtain ⟨i2, ei2⟩ := is_v g7
  obtain rfl : w2 = (.int i2) := Option.some.inj ei2
  obtain ⟨i3, ei3⟩ := is_v g8
  obtain rfl : w3 = (.int i3) := Option.some.inj ei3
  obtain ⟨nE1, hn0⟩ := and_e hn
  obtain ⟨nE2, hn1⟩ := and_e hn0
  obtain ⟨nH1, hn2⟩ := and_e hn1
  obtain ⟨nH2, hn3⟩ := and_e hn2
  obtain ⟨t1, hn4⟩ := and_e hn3
  obtain ⟨t8, hn5⟩ := and_e hn4
  obtain ⟨t9, hn6⟩ := and_e hn5
  obtain ⟨t10, hn7⟩ := and_e hn6
  obtain ⟨t11, hn8⟩ := and_e hn7
  obtain ⟨t12, hn9⟩ := and_e hn8
  obtain ⟨t13, hn10⟩ := and_e hn9
  obtain ⟨t14, hn11⟩ := and_e hn10
  obtain ⟨t32, hn12⟩ := and_e hn11
  obtain ⟨t33, hn13⟩ := and_e hn12
  obtain ⟨t34, hn14⟩ := and_e hn13
  obtain ⟨t35, hn15⟩ := and_e hn14
  obtain ⟨t92, hn16⟩ := and_e hn15
  obtain ⟨t93, hn17⟩ := and_e hn16
  obtain ⟨u1, u2⟩ := and_e hn17
  obtain ⟨ae, eE⟩ := arr_v nE1
  obtain ⟨clE, AE⟩ := Arr.start eE nE1
  obtain ⟨ah, eH⟩ := arr_v nH1
  obtain ⟨clH, AH⟩ := Arr.start eH nH1
  have hatE := Arr.fin (Vm.Alike.refl _) AE
  have hatH := Arr.fin (Vm.Alike.refl _) AH
  obtain ⟨xE, cE', e1, e2, lE31, zE⟩ := Own.len_at (Own.eqI nE2 (Term.int_eval _))
  cases eE.symm.trans e1
  cases hatE.symm.trans e2
  obtain ⟨xH, cH', e3, e4, lH31, zH⟩ := Own.len_at (Own.eqI nH2 (Term.int_eval _))
  cases eH.symm.trans e3
  cases hatH.symm.trans e4
  have nE : clE.slots.size = 128 := own_size lE31 zE (by decide)
  have nH : clH.slots.size = 16 := own_size lH31 zH (by decide)
  have SE : Sta s s.heap "com/example/changelane/changelane/JsonWriter" "ESCAPES" "[B" (.ref ae) := Sta.start eE (Or.inr ⟨hw _ (List.mem_of_getElem? (i := 8) rfl), hw _ (List.mem_of_getElem? (i := 11) rfl)⟩)
  have SH : Sta s s.heap "com/example/changelane/changelane/JsonWriter" "HEX" "[B" (.ref ah) := Sta.start eH (Or.inr ⟨hw _ (List.mem_of_getElem? (i := 8) rfl), hw _ (List.mem_of_getElem? (i := 22) rfl)⟩)
  have tE : ∀ j : Int32, ¬ j < 0 → j < (128 : Int32) → clE.slots[j.toNatClampNeg]? = some (.int (F_tab j)) := by
    intro j j0 j1
    have hlt : j.toNatClampNeg < clE.slots.size := by rw [nE]; exact Own.clamp_lt ⟨j0, j1⟩ (by decide)
    have ix := idx_at (args := #[.int i0, .long i1, .int i2, .int i3]) (s := s) (first := s) (o := none) j0
    have el := elem_f (args := #[.int i0, .long i1, .int i2, .int i3]) (first := s) (o := none) (idx := [j.toNatClampNeg]) (t := (Term.static "com/example/changelane/changelane/JsonWriter" "ESCAPES" "[B")) (a := .index 0) eE ix hatE j0
    have fin : ∀ k : Int32, (Cond.eq (.elem (Term.static "com/example/changelane/changelane/JsonWriter" "ESCAPES" "[B") (.index 0)) (.int k)).value #[.int i0, .long i1, .int i2, .int i3] s none s [j.toNatClampNeg] = some true → clE.slots[j.toNatClampNeg]? = some (.int k) := fun k hk => el.symm.trans (Own.eqI hk (Term.int_eval _))
    have one : ∀ (i k : Int32), ¬ i < 0 → (Cond.eq (.elem (Term.static "com/example/changelane/changelane/JsonWriter" "ESCAPES" "[B") (.int i)) (.int k)).value #[.int i0, .long i1, .int i2, .int i3] s none s [] = some true → j = i → clE.slots[j.toNatClampNeg]? = some (.int k) := fun i k hi hk e => by subst e; exact (elem_f eE (Term.int_eval _) hatE hi).symm.trans (Own.eqI hk (Term.int_eval _))
    obtain ⟨k, hk, ek⟩ := own_nat j (own_nn j0) (own_lt128 j1)
    have tv := own_tabv k hk
    rw [← ek] at tv
    have jt := own_jt k hk
    rw [← ek] at jt
    have a1 := Cond.all_elim eE hatE t1 _ hlt; have a14 := Cond.all_elim eE hatE t14 _ hlt; have a35 := Cond.all_elim eE hatE t35 _ hlt; have a93 := Cond.all_elim eE hatE t93 _ hlt
    have L := fun (m : Int32) => Cond.le_ints (Term.int_eval (args := #[.int i0, .long i1, .int i2, .int i3]) (first := s) (o := none) (idx := [j.toNatClampNeg]) (s := s) m) ix
    have M := fun (m : Int32) => Cond.lt_ints ix (Term.int_eval (args := #[.int i0, .long i1, .int i2, .int i3]) (first := s) (o := none) (idx := [j.toNatClampNeg]) (s := s) m)
    rw [tv]
    by_cases q8 : k < 8
    · rw [own_get117 k (Or.inl q8)]; exact fin _ (own_or_e a1 (nay (L 8) (own_nle (mm := 8) jt (by decide) (by omega))))
    by_cases q14 : k < 14
    · have : k = 8 ∨ k = 9 ∨ k = 10 ∨ k = 11 ∨ k = 12 ∨ k = 13 := by omega
      rcases this with rfl | rfl | rfl | rfl | rfl | rfl
      · exact one 8 _ (by decide) t8 ek
      · exact one 9 _ (by decide) t9 ek
      · exact one 10 _ (by decide) t10 ek
      · exact one 11 _ (by decide) t11 ek
      · exact one 12 _ (by decide) t12 ek
      · exact one 13 _ (by decide) t13 ek
    by_cases q32 : k < 32
    · rw [own_get117 k (Or.inr ⟨by omega, q32⟩)]; exact fin _ (own_or_e (own_or_e a14 (nay (M 14) (own_nlt (mm := 14) jt (by decide) (by omega)))) (nay (L 32) (own_nle (mm := 32) jt (by decide) (by omega))))
    by_cases q35 : k < 35
    · have : k = 32 ∨ k = 33 ∨ k = 34 := by omega
      rcases this with rfl | rfl | rfl
      · exact one 32 _ (by decide) t32 ek
      · exact one 33 _ (by decide) t33 ek
      · exact one 34 _ (by decide) t34 ek
    by_cases q92 : k < 92
    · rw [own_get0 k (Or.inl ⟨by omega, q92⟩) hk]; exact fin _ (own_or_e (own_or_e a35 (nay (M 35) (own_nlt (mm := 35) jt (by decide) (by omega)))) (nay (L 92) (own_nle (mm := 92) jt (by decide) (by omega))))
    by_cases q93 : k < 93
    · have : k = 92 := by omega
      subst this; exact one 92 _ (by decide) t92 ek
    · rw [own_get0 k (Or.inr (by omega)) hk]; exact fin _ (own_or_e a93 (nay (M 93) (own_nlt (mm := 93) jt (by decide) (by omega))))
  have tH : ∀ j : Int32, ¬ j < 0 → j < (16 : Int32) → clH.slots[j.toNatClampNeg]? = some (.int (F_hl j)) := by
    intro j j0 j1
    have hin : ¬ (j < 0 ∨ clH.slots.size ≤ j.toNatClampNeg) := own_inb nH (z := (16 : Int32)) (by decide) ⟨j0, j1⟩
    have hlt : j.toNatClampNeg < clH.slots.size := Nat.lt_of_not_le fun q => hin (Or.inr q)
    have ix := idx_at (args := #[.int i0, .long i1, .int i2, .int i3]) (s := s) (first := s) (o := none) j0
    have el := elem_f (args := #[.int i0, .long i1, .int i2, .int i3]) (first := s) (o := none) (idx := [j.toNatClampNeg]) (t := (Term.static "com/example/changelane/changelane/JsonWriter" "HEX" "[B")) (a := .index 0) eH ix hatH j0
    obtain ⟨v, hv, hf⟩ := elem_fit hfit AH hin
    obtain ⟨x, rfl⟩ := fit_I hf (Or.inr (Or.inr (Or.inl rfl)))
    rw [hv] at el
    have fin : ∀ k : Int64, (Cond.eq (.op1 .i2l (.elem (Term.static "com/example/changelane/changelane/JsonWriter" "HEX" "[B") (.index 0))) (.op2 .ladd (.op1 .i2l (.index 0)) (.long k))).value #[.int i0, .long i1, .int i2, .int i3] s none s [j.toNatClampNeg] = some true → x.toInt64 = j.toInt64 + k := by
      intro k hk
      have e5 := eqv_l (F := .op2 .ladd (.op1 .i2l (.index 0)) (.long k)) (op2_f (i2l_at ix) (long_at k)) hk
      exact Value.long.inj (Option.some.inj ((i2l_at el).symm.trans e5))
    have b1 := Cond.all_elim eH hatH u1 _ hlt; have b2 := Cond.all_elim eH hatH u2 _ hlt
    have L := fun (m : Int32) => Cond.le_ints (Term.int_eval (args := #[.int i0, .long i1, .int i2, .int i3]) (first := s) (o := none) (idx := [j.toNatClampNeg]) (s := s) m) ix
    have M := fun (m : Int32) => Cond.lt_ints ix (Term.int_eval (args := #[.int i0, .long i1, .int i2, .int i3]) (first := s) (o := none) (idx := [j.toNatClampNeg]) (s := s) m)
    rw [hv]
    by_cases q : j < 10
    · have h5 := fin 48 (own_or_e b1 (nay (L 10) (Int32.not_le.mpr q)))
      rw [own_hl1 j x q h5]
    · have h5 := fin 87 (own_or_e b2 (nay (M 10) q))
      rw [own_hl2 j x q j0 j1 h5]
  obtain ⟨n, o, h1, h2, h3, _, L, rfl, ⟨rfl, N⟩, hq⟩ := rm0 l s _ hw tables_1 i0 i1 i2 i3 ae ah clE clH s.heap s.heap.size (Nat.le_refl _) (Old.start s) SE AE zE nE tE SH AH nH tH p e ha hc hk s m _ below hf ((Spec.applies_iff_loose hf).mp happ).1 ⟨rfl, State.Warmed39.refl s, rfl⟩ trivial
  refine ⟨n, _, h1, h2, h3, hpost _ _ _ _ _ _ ⟨Cond.after_iff.mpr rfl, Cond.after_iff.mpr (eq_i res_at (Term.int_eval (1)) rfl), trivial⟩ ⟨hq.1, hq.2.1, (hq.2.2.sift fun y hy => Or.inr (N y hy)).mono (by decide) (by decide)⟩⟩
theorem main_1_1 : Claimed_1_1 := comes_1 fun _ _ _ _ _ _ h hF => ⟨h.1, hF⟩
theorem main_1_2 : Claimed_1_2 := comes_1 fun _ _ _ _ _ _ h hF => ⟨h.2.1, hF⟩
end Jvm.Pilot.@@N@@
namespace Jvm.Pilot.@@N@@
open Jvm Jvm.ClassFile Sem Op Lib Jvm.Free Jvm.Stand Jvm.Pilot.@@N@@.Jvm.D
/-! MADE BY PROGRAM (witnessworld.py) out of the Statement's table words and the real class files: 9 classes; the members and pool entries that the words name. The judged class is class 1, her method 1. -/
namespace start1
open Jvm.ClassFile
def u (s : String) : CpInfo := .utf8 (stringToUtf16 s)
/-- a pool by its gaps: so many unusable entries, then the entry; so many at the end -/
def gap : Nat → List CpInfo → List CpInfo
  | 0, r => r
  | n + 1, r => .unusable :: gap n r
def poolList (es : List (Nat × CpInfo)) (last : Nat) : List CpInfo := es.foldr (fun e r => gap e.1 (e.2 :: r)) (gap last [])
def pool (es : List (Nat × CpInfo)) (last : Nat) : Array CpInfo := ⟨poolList es last⟩
def fileOf (pool : Array CpInfo) (this : Nat) (attrs : Array Attribute := #[]) (ms : Array MethodInfo := #[]) (fl : Nat := 33) (sup : Nat := 0) (ifs : Array Nat := #[]) (fds : Array FieldInfo := #[]) : ClassFile where
  minorVersion := 0
  majorVersion := 65
  constantPool := pool
  accessFlags := fl
  thisClass := this
  superClass := sup
  interfaces := ifs
  fields := fds
  methods := ms
  attributes := attrs
def plain (name : String) (sup : Option ClassId) : Class where
  name := name
  kind := .ordinary
  loader := none
  accessFlags := 33
  super := sup
  interfaces := #[]
  cf := none
  fields := #[]
  methods := #[]
  instanceTypes := #[]
  staticTypes := #[]
  resolved := #[]
  callSites := []
  init := .initialized
  statics := none
  mirror := none

def pool0 : Array CpInfo := pool [(5, u "<init>"), (0, u "()V"), (1, .class_ 10), (1, u "java/lang/Object")] 113

def k0m0 : Method := { name := "<init>", desc := "()V", sig := { parameters := [], returnType := none }, accessFlags := 1, code := none }
/-- java/lang/Object -/
def k0 : Class := { plain "java/lang/Object" none with
  accessFlags := 33
  interfaces := #[]
  cf := some (fileOf pool0 8 #[] #[{ accessFlags := 1, nameIndex := 5, descriptorIndex := 6, attributes := #[] }] 33 0 #[] #[])
  fields := #[]
  methods := #[k0m0]
  instanceTypes := #[]
  staticTypes := #[]
  resolved := Array.replicate 124 none
  statics := none }

def pool1 : Array CpInfo := pool [(2, .class_ 4), (1, u "java/lang/Object"), (0, u "<init>"), (0, u "()V"), (0, .integer 65535), (0, .methodref 9 10), (0, .class_ 11), (0, .nameAndType 12 13), (0, u "com/example/changelane/changelane/JsonWriterEscapesPinLaw"), (0, u "hexLower"), (0, u "(I)I"), (0, .methodref 9 15), (0, .nameAndType 16 13), (0, u "hexUpper"), (0, .methodref 9 18), (0, .nameAndType 19 13), (0, u "letterAt"), (0, .methodref 21 22), (0, .class_ 23), (0, .nameAndType 24 25), (0, u "com/example/changelane/changelane/JsonWriter"), (0, u "escapes"), (0, u "(C[BII)Z"), (0, .methodref 9 27), (0, .nameAndType 28 13), (0, u "shortLetter"), (2, u "law"), (0, u "(IJII)Z")] 5

def k1m0 : Method := { name := "<init>", desc := "()V", sig := { parameters := [], returnType := none }, accessFlags := 2, code := none }
def k1c1 : Code := { maxStack := 5, maxLocals := 16, code := code, exceptionTable := #[], attributes := #[] }
def k1m1 : Method := { name := "law", desc := "(IJII)Z", sig := { parameters := [.int, .long, .int, .int], returnType := some .boolean }, accessFlags := 9, code := some k1c1 }
def k1c2 : Code := { maxStack := 2, maxLocals := 1, code := method_3_code, exceptionTable := #[], attributes := #[] }
def k1m2 : Method := { name := "shortLetter", desc := "(I)I", sig := { parameters := [.int], returnType := some .int }, accessFlags := 10, code := some k1c2 }
def k1c3 : Code := { maxStack := 2, maxLocals := 1, code := method_4_code, exceptionTable := #[], attributes := #[] }
def k1m3 : Method := { name := "letterAt", desc := "(I)I", sig := { parameters := [.int], returnType := some .int }, accessFlags := 10, code := some k1c3 }
def k1c4 : Code := { maxStack := 3, maxLocals := 1, code := method_5_code, exceptionTable := #[], attributes := #[] }
def k1m4 : Method := { name := "hexLower", desc := "(I)I", sig := { parameters := [.int], returnType := some .int }, accessFlags := 10, code := some k1c4 }
def k1c5 : Code := { maxStack := 3, maxLocals := 1, code := method_6_code, exceptionTable := #[], attributes := #[] }
def k1m5 : Method := { name := "hexUpper", desc := "(I)I", sig := { parameters := [.int], returnType := some .int }, accessFlags := 10, code := some k1c5 }
/-- com/example/changelane/changelane/JsonWriterEscapesPinLaw -/
def k1 : Class := { plain "com/example/changelane/changelane/JsonWriterEscapesPinLaw" (some 0) with
  accessFlags := 49
  interfaces := #[]
  cf := some (fileOf pool1 9 #[] #[{ accessFlags := 2, nameIndex := 5, descriptorIndex := 6, attributes := #[] }, { accessFlags := 9, nameIndex := 31, descriptorIndex := 32, attributes := #[] }, { accessFlags := 10, nameIndex := 28, descriptorIndex := 13, attributes := #[] }, { accessFlags := 10, nameIndex := 19, descriptorIndex := 13, attributes := #[] }, { accessFlags := 10, nameIndex := 12, descriptorIndex := 13, attributes := #[] }, { accessFlags := 10, nameIndex := 16, descriptorIndex := 13, attributes := #[] }] 49 2 #[] #[])
  fields := #[]
  methods := #[k1m0, k1m1, k1m2, k1m3, k1m4, k1m5]
  instanceTypes := #[]
  staticTypes := #[]
  resolved := Array.replicate 38 none
  statics := none }

def pool2 : Array CpInfo := pool [(2, .class_ 4), (1, u "java/lang/Object"), (0, u "<init>"), (0, u "()V"), (0, .class_ 8), (0, u "com/example/changelane/changelane/JsonWriter"), (4, u "keptNames"), (0, u "[Ljava/lang/String;"), (1, u "[B"), (2, u "keptNameJson"), (0, u "[[B"), (2, u "bytes"), (14, u "size"), (89, u "NULL"), (8, u "TRUE"), (4, u "FALSE"), (2, u "I"), (10, .fieldref 7 157), (0, .nameAndType 158 16), (0, u "ESCAPES"), (0, .fieldref 7 160), (0, .nameAndType 161 16), (0, u "HEX"), (75, u "LONGEST_CHARACTER"), (2, u "KEPT_NAMES"), (1, u "LONGEST_KEPT_NAME"), (12, u "escapes"), (0, u "(C[BII)Z")] 11

def k2m0 : Method := { name := "<init>", desc := "()V", sig := { parameters := [], returnType := none }, accessFlags := 0, code := none }
def k2c1 : Code := { maxStack := 4, maxLocals := 6, code := prog_14_method_7_code, exceptionTable := #[], attributes := #[] }
def k2m1 : Method := { name := "escapes", desc := "(C[BII)Z", sig := { parameters := [.char, (.array .byte), .int, .int], returnType := some .boolean }, accessFlags := 8, code := some k2c1 }
/-- com/example/changelane/changelane/JsonWriter -/
def k2 : Class := { plain "com/example/changelane/changelane/JsonWriter" (some 0) with
  accessFlags := 48
  interfaces := #[]
  cf := some (fileOf pool2 7 #[] #[{ accessFlags := 0, nameIndex := 5, descriptorIndex := 6, attributes := #[] }, { accessFlags := 8, nameIndex := 255, descriptorIndex := 256, attributes := #[] }] 48 2 #[] #[{ accessFlags := 26, nameIndex := 161, descriptorIndex := 16, attributes := #[] }, { accessFlags := 26, nameIndex := 137, descriptorIndex := 16, attributes := #[] }, { accessFlags := 26, nameIndex := 142, descriptorIndex := 16, attributes := #[] }, { accessFlags := 26, nameIndex := 128, descriptorIndex := 16, attributes := #[] }, { accessFlags := 26, nameIndex := 237, descriptorIndex := 145, attributes := #[] }, { accessFlags := 26, nameIndex := 158, descriptorIndex := 16, attributes := #[] }, { accessFlags := 26, nameIndex := 240, descriptorIndex := 145, attributes := #[] }, { accessFlags := 26, nameIndex := 242, descriptorIndex := 145, attributes := #[] }, { accessFlags := 18, nameIndex := 13, descriptorIndex := 14, attributes := #[] }, { accessFlags := 18, nameIndex := 19, descriptorIndex := 20, attributes := #[] }, { accessFlags := 2, nameIndex := 23, descriptorIndex := 16, attributes := #[] }, { accessFlags := 2, nameIndex := 38, descriptorIndex := 145, attributes := #[] }])
  fields := #[{ name := "HEX", type := (.array .byte), accessFlags := 26, slot := 0, constantValue := 0 }, { name := "TRUE", type := (.array .byte), accessFlags := 26, slot := 1, constantValue := 0 }, { name := "FALSE", type := (.array .byte), accessFlags := 26, slot := 2, constantValue := 0 }, { name := "NULL", type := (.array .byte), accessFlags := 26, slot := 3, constantValue := 0 }, { name := "LONGEST_CHARACTER", type := .int, accessFlags := 26, slot := 4, constantValue := 0 }, { name := "ESCAPES", type := (.array .byte), accessFlags := 26, slot := 5, constantValue := 0 }, { name := "KEPT_NAMES", type := .int, accessFlags := 26, slot := 6, constantValue := 0 }, { name := "LONGEST_KEPT_NAME", type := .int, accessFlags := 26, slot := 7, constantValue := 0 }, { name := "keptNames", type := (.array (.object "java/lang/String")), accessFlags := 18, slot := 0, constantValue := 0 }, { name := "keptNameJson", type := (.array (.array .byte)), accessFlags := 18, slot := 1, constantValue := 0 }, { name := "bytes", type := (.array .byte), accessFlags := 2, slot := 2, constantValue := 0 }, { name := "size", type := .int, accessFlags := 2, slot := 3, constantValue := 0 }]
  methods := #[k2m0, k2m1]
  instanceTypes := #[(.array (.object "java/lang/String")), (.array (.array .byte)), (.array .byte), .int]
  staticTypes := #[(.array .byte), (.array .byte), (.array .byte), (.array .byte), .int, (.array .byte), .int, .int]
  resolved := Array.replicate 268 none
  statics := some 0 }

def pool3 : Array CpInfo := pool [(1, u "java/lang/Cloneable"), (0, .class_ 1), (0, u "java/lang/Object"), (0, .class_ 3)] 3

/-- java/lang/Cloneable -/
def k3 : Class := { plain "java/lang/Cloneable" (some 0) with
  accessFlags := 1537
  interfaces := #[]
  cf := some (fileOf pool3 2 #[] #[] 1537 4 #[] #[])
  fields := #[]
  methods := #[]
  instanceTypes := #[]
  staticTypes := #[]
  resolved := Array.replicate 8 none
  statics := none }

def pool4 : Array CpInfo := pool [(1, u "java/io/Serializable"), (0, .class_ 1), (0, u "java/lang/Object"), (0, .class_ 3)] 3

/-- java/io/Serializable -/
def k4 : Class := { plain "java/io/Serializable" (some 0) with
  accessFlags := 1537
  interfaces := #[]
  cf := some (fileOf pool4 2 #[] #[] 1537 4 #[] #[])
  fields := #[]
  methods := #[]
  instanceTypes := #[]
  staticTypes := #[]
  resolved := Array.replicate 8 none
  statics := none }

/-- the primitive byte -/
def k5 : Class := { plain "byte" none with kind := .primitive 'B', accessFlags := 0x411 }
/-- [B -/
def k6 : Class := { plain "[B" (some 0) with kind := .array 5 .byte, interfaces := #[3, 4], accessFlags := 1041 }

/-- the primitive int -/
def k7 : Class := { plain "int" none with kind := .primitive 'I', accessFlags := 0x411 }
/-- [I -/
def k8 : Class := { plain "[I" (some 0) with kind := .array 7 .int, interfaces := #[3, 4], accessFlags := 1041 }

def heap : Heap := #[{ cls := 2, slots := #[.ref 2, .null, .null, .null, .int 0, .ref 1, .int 0, .int 0], vm := .statics 2 },
  { cls := 6, slots := #[.int 117, .int 117, .int 117, .int 117, .int 117, .int 117, .int 117, .int 117, .int 98, .int 116, .int 110, .int 117, .int 102, .int 114, .int 117, .int 117, .int 117, .int 117, .int 117, .int 117, .int 117, .int 117, .int 117, .int 117, .int 117, .int 117, .int 117, .int 117, .int 117, .int 117, .int 117, .int 117, .int 0, .int 0, .int 34, .int 0, .int 0, .int 0, .int 0, .int 0, .int 0, .int 0, .int 0, .int 0, .int 0, .int 0, .int 0, .int 0, .int 0, .int 0, .int 0, .int 0, .int 0, .int 0, .int 0, .int 0, .int 0, .int 0, .int 0, .int 0, .int 0, .int 0, .int 0, .int 0, .int 0, .int 0, .int 0, .int 0, .int 0, .int 0, .int 0, .int 0, .int 0, .int 0, .int 0, .int 0, .int 0, .int 0, .int 0, .int 0, .int 0, .int 0, .int 0, .int 0, .int 0, .int 0, .int 0, .int 0, .int 0, .int 0, .int 0, .int 0, .int 92, .int 0, .int 0, .int 0, .int 0, .int 0, .int 0, .int 0, .int 0, .int 0, .int 0, .int 0, .int 0, .int 0, .int 0, .int 0, .int 0, .int 0, .int 0, .int 0, .int 0, .int 0, .int 0, .int 0, .int 0, .int 0, .int 0, .int 0, .int 0, .int 0, .int 0, .int 0, .int 0, .int 0, .int 0, .int 0], vm := .none },
  { cls := 6, slots := #[.int 48, .int 49, .int 50, .int 51, .int 52, .int 53, .int 54, .int 55, .int 56, .int 57, .int 97, .int 98, .int 99, .int 100, .int 101, .int 102], vm := .none }]
def classes : Array Class := #[k0, k1, k2, k3, k4, k5, k6, k7, k8]
def interned : List (Array UInt16 × Addr) := []
def slotsUsed : Nat := 152
def theMethod : MethodId := ⟨1, 1⟩
def args0 : Array Value := #[.int 5, .long 300, .int 1, .int 2]
def aboutOver (below : List Frame) : State where
  vm := { classes := classes, interned := interned.toArray }
  heap := heap
  slotsUsed := slotsUsed
  threads := #[{ frames := .invoking theMethod args0 :: below }]
def below0 : List Frame := [.native { method := ⟨0, 0⟩, args := #[] }]
def about1 : State := aboutOver below0
def p0 : Program := .bare "" "" ""
def e0 : Env := launch0.env 0 0 0
theorem w_frames : about1.frames = Frame.invoking theMethod args0 :: below0 := rfl
set_option maxRecDepth 65536 in
theorem w_args : argsFit about1.vm theMethod args0 = true := by decide +kernel
set_option maxRecDepth 65536 in
theorem w_heap : heapFits about1 = true := by decide +kernel
set_option maxRecDepth 65536 in
theorem w_runnable : about1.curStatus? = some .runnable := by decide +kernel
set_option maxRecDepth 65536 in
theorem w_alone : about1.alone = true := by decide +kernel
set_option maxRecDepth 65536 in
theorem w_named : about1.methodNamed? x = some theMethod := by decide +kernel
set_option maxRecDepth 65536 in
theorem w_hears : about1.hears theMethod below0 = true := by decide +kernel
set_option maxRecDepth 65536 in
theorem w_ripe : about1.ripe theMethod args0 below0 = true := by decide +kernel
theorem w_running : about1.status = .running := rfl
set_option maxRecDepth 65536 in
theorem w_room : about1.hasRoom e0.platform room_1 = true :=
  launch0.hasRoom_least _ room_1 (by decide +kernel) (by decide +kernel) (by decide +kernel) (by decide +kernel) (by decide +kernel) (by decide +kernel)
theorem allAtoms_all (ts : List Jvm.Cond) (a : Array Jvm.Value) (st : Jvm.State) : (allAtoms ts).before a st = ts.all (fun c => c.before a st) := by
  induction ts with
  | nil => rfl
  | cons c t ih =>
    show (Jvm.Cond.and c (allAtoms t)).before a st = _
    rw [Jvm.Cond.before_and, ih, List.all_cons]
def words1 : List Jvm.Cond := Jvm.Cond.code x code maxLocals ret :: tables_1
/-- a 'code' word, met by the world's own term for the bytes: nothing is compared byte by byte -/
theorem code_word {y : MethodName} {bytes : ByteArray} {mx : Nat} {rt : Option FieldType} {a : Array Value} {s : State} {m : MethodId} {meth : Method} {c : Code} (h1 : s.methodNamed? y = some m) (h2 : s.vm.method? m = some meth) (h3 : meth.code = some c) (h4 : c.code = bytes)
    (h5 : (c.maxLocals == mx && c.exceptionTable.isEmpty && decide (c.maxStack ≤ mostOperands) && decide (meth.sig.returnType = rt) && !meth.locks && decide (parseMethodDescriptor y.desc = some meth.sig)) = true) : (Jvm.Cond.code y bytes mx rt).before a s = true := by
  simp only [Bool.and_eq_true, beq_iff_eq, Bool.not_eq_true', decide_eq_true_eq] at h5
  obtain ⟨⟨⟨⟨⟨g1, g2⟩, g3⟩, g4⟩, g5⟩, g6⟩ := h5
  simp [Cond.before, Cond.holds, Cond.value, h1, h2, h3, h4, g1, g2, g3, g4, g5, g6]
def isCode : Jvm.Cond → Bool
  | .code _ _ _ _ => true
  | _ => false
theorem all_split {L : List Jvm.Cond} {P : Jvm.Cond → Bool} (h1 : L.all (fun c => isCode c || P c) = true) (h2 : ∀ c ∈ L.filter isCode, P c = true) : L.all P = true := by
  refine List.all_eq_true.mpr fun c hc => ?_
  have h := List.all_eq_true.mp h1 c hc
  rcases Bool.eq_false_or_eq_true (isCode c) with hi | hi
  · exact h2 c (List.mem_filter.mpr ⟨hc, hi⟩)
  · simpa [hi] using h
set_option maxRecDepth 65536 in
theorem w_c0 : (Jvm.Cond.code x code maxLocals ret).before args0 about1 = true := code_word (m := ⟨1, 1⟩) (meth := k1m1) (c := k1c1) (by decide +kernel) rfl rfl rfl (by decide +kernel)
set_option maxRecDepth 65536 in
theorem w_c1 : (Jvm.Cond.code ({ cls := "com/example/changelane/changelane/JsonWriterEscapesPinLaw", name := "hexLower", desc := "(I)I" } : Jvm.MethodName) method_5_code (1 : Nat) (Option.some Jvm.ClassFile.FieldType.int)).before args0 about1 = true := code_word (m := ⟨1, 4⟩) (meth := k1m4) (c := k1c4) (by decide +kernel) rfl rfl rfl (by decide +kernel)
set_option maxRecDepth 65536 in
theorem w_c2 : (Jvm.Cond.code ({ cls := "com/example/changelane/changelane/JsonWriter", name := "escapes", desc := "(C[BII)Z" } : Jvm.MethodName) prog_14_method_7_code (6 : Nat) (Option.some Jvm.ClassFile.FieldType.boolean)).before args0 about1 = true := code_word (m := ⟨2, 1⟩) (meth := k2m1) (c := k2c1) (by decide +kernel) rfl rfl rfl (by decide +kernel)
set_option maxRecDepth 65536 in
theorem w_c3 : (Jvm.Cond.code ({ cls := "com/example/changelane/changelane/JsonWriterEscapesPinLaw", name := "shortLetter", desc := "(I)I" } : Jvm.MethodName) method_3_code (1 : Nat) (Option.some Jvm.ClassFile.FieldType.int)).before args0 about1 = true := code_word (m := ⟨1, 2⟩) (meth := k1m2) (c := k1c2) (by decide +kernel) rfl rfl rfl (by decide +kernel)
set_option maxRecDepth 65536 in
theorem w_c4 : (Jvm.Cond.code ({ cls := "com/example/changelane/changelane/JsonWriterEscapesPinLaw", name := "hexUpper", desc := "(I)I" } : Jvm.MethodName) method_6_code (1 : Nat) (Option.some Jvm.ClassFile.FieldType.int)).before args0 about1 = true := code_word (m := ⟨1, 5⟩) (meth := k1m5) (c := k1c5) (by decide +kernel) rfl rfl rfl (by decide +kernel)
set_option maxRecDepth 65536 in
theorem w_c5 : (Jvm.Cond.code ({ cls := "com/example/changelane/changelane/JsonWriterEscapesPinLaw", name := "letterAt", desc := "(I)I" } : Jvm.MethodName) method_4_code (1 : Nat) (Option.some Jvm.ClassFile.FieldType.int)).before args0 about1 = true := code_word (m := ⟨1, 3⟩) (meth := k1m3) (c := k1c3) (by decide +kernel) rfl rfl rfl (by decide +kernel)
def codes1 : List Jvm.Cond := [Jvm.Cond.code x code maxLocals ret, Jvm.Cond.code ({ cls := "com/example/changelane/changelane/JsonWriterEscapesPinLaw", name := "hexLower", desc := "(I)I" } : Jvm.MethodName) method_5_code (1 : Nat) (Option.some Jvm.ClassFile.FieldType.int), Jvm.Cond.code ({ cls := "com/example/changelane/changelane/JsonWriter", name := "escapes", desc := "(C[BII)Z" } : Jvm.MethodName) prog_14_method_7_code (6 : Nat) (Option.some Jvm.ClassFile.FieldType.boolean), Jvm.Cond.code ({ cls := "com/example/changelane/changelane/JsonWriterEscapesPinLaw", name := "shortLetter", desc := "(I)I" } : Jvm.MethodName) method_3_code (1 : Nat) (Option.some Jvm.ClassFile.FieldType.int), Jvm.Cond.code ({ cls := "com/example/changelane/changelane/JsonWriterEscapesPinLaw", name := "hexUpper", desc := "(I)I" } : Jvm.MethodName) method_6_code (1 : Nat) (Option.some Jvm.ClassFile.FieldType.int), Jvm.Cond.code ({ cls := "com/example/changelane/changelane/JsonWriterEscapesPinLaw", name := "letterAt", desc := "(I)I" } : Jvm.MethodName) method_4_code (1 : Nat) (Option.some Jvm.ClassFile.FieldType.int)]
set_option maxRecDepth 65536 in
theorem codes_eq : words1.filter isCode = codes1 := rfl
theorem w_codes : ∀ c ∈ words1.filter isCode, c.before args0 about1 = true := by
  rw [codes_eq]
  intro c hc
  simp only [codes1, List.mem_cons, List.not_mem_nil, or_false] at hc
  rcases hc with rfl | rfl | rfl | rfl | rfl | rfl
  · exact w_c0
  · exact w_c1
  · exact w_c2
  · exact w_c3
  · exact w_c4
  · exact w_c5
set_option maxRecDepth 65536 in
theorem w_t1 : words1.all (fun c => isCode c || c.before args0 about1) = true := by decide +kernel
theorem w_tables : (allAtoms (Jvm.Cond.code x code maxLocals ret :: tables_1)).before args0 about1 = true := by
  rw [allAtoms_all]
  show words1.all (fun c => c.before args0 about1) = true
  refine all_split ?_ w_codes
  rw [w_t1]
set_option maxRecDepth 65536 in
theorem w_case : (Jvm.Cond.and given_1 narrow_1).before args0 about1 = true := by decide +kernel
theorem w_applies : (headSpec (Jvm.Cond.code x code maxLocals ret :: tables_1) room_1).applies x e0.platform about1 = true :=
  (Spec.applies_iff w_frames).mpr ⟨w_running, w_runnable, w_alone, w_named, w_hears, w_ripe, w_room, w_tables⟩
theorem atStart : AtStart classFile x code maxLocals ret World_1 tables_1 room_1 Calls_1 rest_1 Pre_1 launch0 p0 e0 about1 theMethod args0 below0 :=
  ⟨lists_1, trivial, launch0.admits_env _ _ _, launch0.least_env, fairChoices_fair.cas, fairChoices_fair.clock, w_frames, w_args, w_heap, w_applies, trivial, trivial, w_case⟩
end start1
theorem witness_1 : WitnessClaimed_1 := ⟨start1.p0, start1.e0, start1.about1, start1.theMethod, start1.args0, start1.below0, start1.atStart⟩
end Jvm.Pilot.@@N@@
