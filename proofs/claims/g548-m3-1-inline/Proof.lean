import JvmDerived
import JvmDerived.Pilot.@@N@@Statement
import JvmDerived.Pilot.@@N@@Code
set_option linter.unusedVariables false
set_option linter.unusedSimpArgs false
namespace Jvm.RoadKit
open Sem ClassFile Op Lib Jvm.Stand Jvm.Free Jvm.LawKit
section Own
variable {p : Program} {l : Launch} {e : Env} {R : Room} {s : State} {m : MethodId} {args : Array Value} {below : List Frame} {meth : Method} {c : Code} {T : State} {locs : List Loc} {cells slots : Nat}
/-- from S the run comes to an end of which K holds -/
def oG (p : Program) (e : Env) (below : List Frame) (K : State → Outcome → Prop) (S : State) : Prop := ∃ t o, Steps p.tables e below S t ∧ t.status = .running ∧ Ended t below o ∧ K t o
def own_K (s : State) (Q : Option Value → Heap → List Loc → Prop) (k n : Nat) (t : State) (o : Outcome) : Prop := ∃ v L, o = .returned v ∧ Q v t.heap L ∧ FrameEnd s o t L k n
theorem og {K : State → Outcome → Prop} {S S' : State} (h : ∀ t, Steps p.tables e below S' t → Steps p.tables e below S t) (g : oG p e below K S') : oG p e below K S := by
  obtain ⟨t, o, h1, h2⟩ := g; exact ⟨t, o, h t h1, h2⟩
theorem own_via {K : State → Outcome → Prop} {S S' : State} (h : Steps p.tables e below S S') (g : oG p e below K S') : oG p e below K S := by
  obtain ⟨t, o, h1, h2⟩ := g; exact ⟨t, o, h.trans h1, h2⟩
variable {Q : Option Value → Heap → List Loc → Prop} {k n : Nat}
theorem own_end (X : Stand p l e R s m args below meth c T locs cells slots) {v : Option Value} (hlk : meth.locks = false) (hv : meth.sig.returnType = none → v = none) (hk : cells ≤ k) (hn : slots ≤ n) (hQ : Q v T.heap locs) {S : State}
    (st : ∀ fs, (∀ (f : JFrame) (acts : List Action), f.method = m → f.locked = none → f.entered = [] → (doReturn e (T.setTop f) acts v).1 = T.setFrames fs) → Steps p.tables e below S (T.setFrames fs)) : oG p e below (own_K s Q k n) S := by
  obtain ⟨fs, hr, hrun, hended, hW, hsame⟩ := X.leave hv hlk
  exact ⟨_, _, st fs hr, hrun, hended, v, locs, rfl, hQ, ⟨_, rfl⟩, hW, hsame.mono hk hn⟩
theorem own_ret0 (X : Stand p l e R s m args below meth c T locs cells slots) (hx : p.tables.exec = Jvm.exec) (hlk : meth.locks = false) (hret : meth.sig.returnType = none) {pc : Nat} {Ls : Array Slot} (hd : decode c.code pc = .ok (.return_, 1)) (hk : cells ≤ k) (hn : slots ≤ n) (hQ : Q none T.heap locs) :
    oG p e below (own_K s Q k n) (T.setTop (mkF m pc Ls [])) := own_end X hlk (fun _ => rfl) hk hn hQ fun _ hr => X.returnOut hx hret hd hr
theorem own_retN (X : Stand p l e R s m args below meth c T locs cells slots) (hx : p.tables.exec = Jvm.exec) (hlk : meth.locks = false) {t : FieldType} (hret : meth.sig.returnType = some t) (ht : t = .boolean ∨ t = .byte ∨ t = .char ∨ t = .short) {pc : Nat} {Ls : Array Slot} {z : Int32} {rest : List Value} (hd : decode c.code pc = .ok (.ireturn, 1)) (hk : cells ≤ k) (hn : slots ≤ n) (hQ : Q (some (.int (nar t z))) T.heap locs) :
    oG p e below (own_K s Q k n) (T.setTop (mkF m pc Ls (.int z :: rest))) := own_end X hlk (fun h => by rw [hret] at h; cases h) hk hn hQ fun _ hr => retN X hx hret ht hd hr
theorem own_retI (X : Stand p l e R s m args below meth c T locs cells slots) (hx : p.tables.exec = Jvm.exec) (hlk : meth.locks = false) (hret : meth.sig.returnType = some .int) {pc : Nat} {Ls : Array Slot} {z : Int32} {rest : List Value} (hd : decode c.code pc = .ok (.ireturn, 1)) (hk : cells ≤ k) (hn : slots ≤ n) (hQ : Q (some (.int z)) T.heap locs) :
    oG p e below (own_K s Q k n) (T.setTop (mkF m pc Ls (.int z :: rest))) := own_end X hlk (fun h => by rw [hret] at h; cases h) hk hn hQ fun _ hr => retOut X hx hret rfl (Or.inl ⟨rfl, Or.inl rfl, z, rfl⟩) hd hr
theorem own_retJ (X : Stand p l e R s m args below meth c T locs cells slots) (hx : p.tables.exec = Jvm.exec) (hlk : meth.locks = false) (hret : meth.sig.returnType = some .long) {pc : Nat} {Ls : Array Slot} {z : Int64} {rest : List Value} (hd : decode c.code pc = .ok (.lreturn, 1)) (hk : cells ≤ k) (hn : slots ≤ n) (hQ : Q (some (.long z)) T.heap locs) :
    oG p e below (own_K s Q k n) (T.setTop (mkF m pc Ls (.long z :: rest))) := own_end X hlk (fun h => by rw [hret] at h; cases h) hk hn hQ fun _ hr => retOut X hx hret rfl (Or.inr (Or.inl ⟨rfl, rfl, z, rfl⟩)) hd hr
theorem own_retR (X : Stand p l e R s m args below meth c T locs cells slots) (hx : p.tables.exec = Jvm.exec) (hlk : meth.locks = false) {t : FieldType} (hret : meth.sig.returnType = some t) (ht : t.isReference = true) {pc : Nat} {Ls : Array Slot} {w : Value} {rest : List Value} (hw : w.isRef = true) (hd : decode c.code pc = .ok (.areturn, 1)) (hk : cells ≤ k) (hn : slots ≤ n) (hQ : Q (some w) T.heap locs) :
    oG p e below (own_K s Q k n) (T.setTop (mkF m pc Ls (w :: rest))) := own_end X hlk (fun h => by rw [hret] at h; cases h) hk hn hQ fun _ hr => retOut X hx hret (by cases t <;> first | rfl | cases ht) (Or.inr (Or.inr (Or.inr (Or.inr ⟨rfl, ht, hw⟩)))) hd hr
section Arrays
variable {Z : State} {h : Heap} {a : Addr} {k : ClassId} {ty : FieldType} {z : Int32} {vs : List Value} {dv : Value}
theorem own_laload {g : JFrame} {target : State} (X : Stand p l e R s m args below meth c T locs cells slots) (hx : p.tables.exec = Jvm.exec) (hZ : Z.Warmed39 s.vm) (eT : T.heap = h) (F : Arv Z h a k .long z vs dv) (j : Int32) (v : Value) (hj : ¬ j < 0 ∧ j < z) (hat : vs.getD j.toNatClampNeg dv = v) (hg : g.method = m) {rest : List Value} (hs : g.stack = .int j :: .ref a :: rest) (hd : decode c.code g.pc = .ok (.laload, 1))
    (hr : Steps p.tables e below (T.setTop { g with pc := g.pc + 1, stack := v :: rest }) target) : Steps p.tables e below (T.setTop g) target := by
  obtain ⟨cl, A, q, S, N, H, G⟩ := F
  have hi := inb_of S hj
  exact X.laload hx (j := j) (v := v) (by rw [eT]; exact A.1) (State.isArrayOf_alike hZ.alike A.2.1) A.2.2 hi (Has.at H hi hat) hg hs hd _ hr
theorem own_alen {g : JFrame} {target : State} (X : Stand p l e R s m args below meth c T locs cells slots) (hx : p.tables.exec = Jvm.exec) (hZ : Z.Warmed39 s.vm) (eT : T.heap = h) (F : Arv Z h a k ty z vs dv) (hg : g.method = m) {rest : List Value} (hs : g.stack = .ref a :: rest) (hd : decode c.code g.pc = .ok (.arraylength, 1))
    (hr : Steps p.tables e below (T.setTop { g with pc := g.pc + 1, stack := .int z :: rest }) target) : Steps p.tables e below (T.setTop g) target := by
  obtain ⟨cl, A, q, S, N, -, -⟩ := F
  exact X.arraylength hx (by rw [eT]; exact A.1) (State.isArrayOf_alike hZ.alike A.2.1) hg hs hd _ (by rw [len_of S N]; exact hr)
theorem own_stJ {K : State → Outcome → Prop} {n0 : Nat} (X : Stand p l e R s m args below meth c T locs cells slots) (hx : p.tables.exec = Jvm.exec) (hZ : Z.Warmed39 s.vm) (eT : T.heap = h) (F : Arv Z h a k .long z vs dv) (j : Int32) (x : Int64) (i : Nat) (hj : ¬ j < 0 ∧ j < z) (hi : j.toNatClampNeg = i) (hl : i < vs.length) (vs' : List Value) (hv : vs.set i (.long x) = vs') (N : Fr n0 locs) (ge : n0 ≤ a) {pc : Nat} {Ls : Array Slot} {rest : List Value} (hd : decode c.code pc = .ok (.lastore, 1))
    (kk : ∀ (T' : State) (h' : Heap) (L' : List Loc), Stand p l e R s m args below meth c T' L' cells slots → T'.heap = h' → Wr h h' a i (.long x) → Fr n0 L' → Arv Z h' a k .long z vs' dv → oG p e below K (T'.setTop (mkF m (pc + 1) Ls rest))) : oG p e below K (T.setTop (mkF m pc Ls (.long x :: .int j :: .ref a :: rest))) := by
  obtain ⟨cl, A, q, S, M, H, G⟩ := F
  subst hi; subst hv
  obtain ⟨T', h', X', e', W, st⟩ := stJ X hx hZ eT A (j := j) (inb_of S hj) (g := mkF m pc Ls (.long x :: .int j :: .ref a :: rest)) rfl rfl hd
  exact og st (kk T' h' _ X' e' W (Fr.snoc X' N ge) (Arv.set A q S M H G rfl W _ rfl hl))
theorem own_stC {K : State → Outcome → Prop} {n0 : Nat} (X : Stand p l e R s m args below meth c T locs cells slots) (hx : p.tables.exec = Jvm.exec) (hZ : Z.Warmed39 s.vm) (eT : T.heap = h) (F : Arv Z h a k .char z vs dv) (j : Int32) (x x' : Int32) (i : Nat) (hj : ¬ j < 0 ∧ j < z) (hi : j.toNatClampNeg = i) (hl : i < vs.length) (hn : nar .char x = x') (vs' : List Value) (hv : vs.set i (.int x') = vs') (N : Fr n0 locs) (ge : n0 ≤ a) {pc : Nat} {Ls : Array Slot} {rest : List Value} (hd : decode c.code pc = .ok (.castore, 1))
    (kk : ∀ (T' : State) (h' : Heap) (L' : List Loc), Stand p l e R s m args below meth c T' L' cells slots → T'.heap = h' → Wr h h' a i (.int x') → Fr n0 L' → Arv Z h' a k .char z vs' dv → oG p e below K (T'.setTop (mkF m (pc + 1) Ls rest))) : oG p e below K (T.setTop (mkF m pc Ls (.int x :: .int j :: .ref a :: rest))) := by
  obtain ⟨cl, A, q, S, M, H, G⟩ := F
  subst hn; subst hi; subst hv
  obtain ⟨T', h', X', e', W, st⟩ := stC X hx hZ eT A (j := j) (inb_of S hj) (g := mkF m pc Ls (.int x :: .int j :: .ref a :: rest)) rfl rfl hd
  exact og st (kk T' h' _ X' e' W (Fr.snoc X' N ge) (Arv.set A q S M H G (fits_nar_char _) W _ rfl hl))
end Arrays
section Calls
variable {own : String} {index : Nat} {y z : MethodName} {bytes : ByteArray} {maxL : Nat} {ret : Option FieldType} {rm : Room} {W : Nat} {as' : Array Value} {Z : State} {a0 : Array Value} {h : Heap} {K : State → Outcome → Prop} {pc : Nat} {Ls : Array Slot} {argsL rest stk : List Value} {C : String} {b : Addr}
theorem own_cs (X : Stand p l e R s m args below meth c T locs cells slots) (hx : p.tables.exec = Jvm.exec) (hZ : Z.Warmed39 s.vm) (hown : s.vm.findClass own = some m.cls) (w1 : (Cond.methodLink own index y).before a0 Z = true) (w2 : (Cond.static y).before a0 Z = true) (w3 : (Cond.initialized y.cls).before a0 Z = true) (w4 : (Cond.code y bytes maxL ret).before a0 Z = true)
    (hy : y.cls ≠ "java/lang/invoke/MethodHandle" ∧ y.cls ≠ "java/lang/invoke/VarHandle")
    (hM : MetFree l y (head1 [Cond.code y bytes maxL ret] rm) (fun a U => a = as' ∧ Z.Warmed39 U.vm ∧ U.heap = h) (fun _ _ _ _ _ => True) (fun _ U o U' => ∃ v L, o = .returned v ∧ Q v U'.heap L ∧ FrameEnd U o U' L rm.cells rm.slots))
    (hf : rm.frames + 1 ≤ R.frames) (hl : W + (maxL + 11) + rm.locals ≤ R.locals) (hc : cells + rm.cells ≤ R.cells) (hs : slots + rm.slots ≤ R.slots) (eT : T.heap = h) (hsz : Ls.size = c.maxLocals) (hlen : ∀ sig, parseMethodDescriptor y.desc = some sig → argsL.length = sig.parameters.length)
    (hst : stk = argsL.reverse ++ rest) (has : argsL.toArray = as') (hW : (rest.map fun v => v.category).sum ≤ W) (hd : decode c.code pc = .ok (.invokestatic index, 3))
    (k : ∀ (v : Option Value) (T' : State) (L : List Loc), Stand p l e R s m args below meth c T' (locs ++ L) (cells + rm.cells) (slots + rm.slots) → Q v T'.heap L → oG p e below K (T'.setTop (mkF m (pc + 3) Ls (v.toList ++ rest)))) : oG p e below K (T.setTop (mkF m pc Ls stk)) := by
  obtain ⟨v, _, ⟨T', L', k', n'⟩, -, X', ⟨L, hQ, h1, h2, h3⟩, st⟩ := Jvm.LawKit.callS X hx (y := y) hown (mvT hZ w1) (mvT hZ w2) (mvT hZ w3) (mvT hZ w4) hy (backOf (W := W) hM hZ w4 w3 hf hl) (g := mkF m pc Ls stk) rfl hsz (argsL := argsL) (rest := rest) hlen hst (by show 2 * 0 + _ ≤ _; simpa using hW) hd (fun _ _ => ⟨has, eT, hc, hs⟩)
  dsimp only [Pt.U, Pt.locs, Pt.cells, Pt.slots] at X' h1 h2 h3 st hQ
  subst h1 h2 h3
  exact og st (k v T' L X' hQ)
theorem own_cp (X : Stand p l e R s m args below meth c T locs cells slots) (hx : p.tables.exec = Jvm.exec) (hZ : Z.Warmed39 s.vm) (hown : s.vm.findClass own = some m.cls) (hy1 : y.name = "<init>") (w1 : (Cond.methodLink own index y).before a0 Z = true) (w2 : (Cond.instanceMethod y).before a0 Z = true) (w3 : (Cond.initialized y.cls).before a0 Z = true) (w4 : (Cond.code y bytes maxL none).before a0 Z = true)
    (hy : y.cls ≠ "java/lang/invoke/MethodHandle" ∧ y.cls ≠ "java/lang/invoke/VarHandle")
    (hM : MetFree l y (head1 [Cond.code y bytes maxL none] rm) (fun a U => a = as' ∧ Z.Warmed39 U.vm ∧ U.heap = h) (fun _ _ _ _ _ => True) (fun _ U o U' => ∃ v L, o = .returned v ∧ Q v U'.heap L ∧ FrameEnd U o U' L rm.cells rm.slots))
    (hf : rm.frames + 1 ≤ R.frames) (hl : W + (maxL + 11) + rm.locals ≤ R.locals) (hc : cells + rm.cells ≤ R.cells) (hs : slots + rm.slots ≤ R.slots) (eT : T.heap = h) (hsz : Ls.size = c.maxLocals) (hlen : ∀ sig, parseMethodDescriptor y.desc = some sig → argsL.length = sig.parameters.length)
    (hst : stk = argsL.reverse ++ .ref b :: rest) (has : (.ref b :: argsL).toArray = as') (hW : (rest.map fun v => v.category).sum ≤ W) (hd : decode c.code pc = .ok (.invokespecial index, 3))
    (k : ∀ (v : Option Value) (T' : State) (L : List Loc), Stand p l e R s m args below meth c T' (locs ++ L) (cells + rm.cells) (slots + rm.slots) → Q v T'.heap L → oG p e below K (T'.setTop (mkF m (pc + 3) Ls (v.toList ++ rest)))) : oG p e below K (T.setTop (mkF m pc Ls stk)) := by
  obtain ⟨v, _, ⟨T', L', k', n'⟩, -, X', ⟨L, hQ, h1, h2, h3⟩, st⟩ := X.specialBack hx (y := y) hy1 hown (mvT hZ w1) (mvT hZ w2) (mvT hZ w4) hy (backOf (W := W) hM hZ w4 w3 hf hl) (g := mkF m pc Ls stk) rfl hsz (Steps.refl _) (a := b) (argsL := argsL) (rest := rest) hlen hst (by show 2 * 0 + _ ≤ _; simpa using hW) hd (fun _ _ => ⟨has, eT, hc, hs⟩)
  dsimp only [Pt.U, Pt.locs, Pt.cells, Pt.slots] at X' h1 h2 h3 st hQ
  subst h1 h2 h3
  exact own_via st (k v T' L X' hQ)
theorem own_nf {s : State} {args : Array Value} {y y' : MethodName} {C : String} (v : (Cond.selects C y' y').before args s = true) (w' : (Cond.instanceMethod y').before args s = true) (hc : y'.cls = y.cls) : NotFace s y := fun r0 h0 => by
  obtain ⟨m', meth', hn', -, -, -⟩ := Cond.instanceMethod_spec w'
  have h1 := findClass_of_methodNamed h0
  have h2 := findClass_of_methodNamed hn'
  rw [hc, h1] at h2
  rw [Option.some.inj h2]
  exact notFace_of_selects v m' hn'
theorem own_decl {Z : State} {a0 : Array Value} {y : MethodName} {bytes : ByteArray} {maxL : Nat} {ret : Option FieldType} (w : (Cond.instanceMethod y).before a0 Z = true) (v : (Cond.code y bytes maxL ret).before a0 Z = true) : (Cond.declares y).before a0 Z = true := by
  obtain ⟨m, meth, hn, hm, hst, -⟩ := Cond.instanceMethod_spec w
  obtain ⟨m2, cM, q1, -, -, -, -, -, -, hsig⟩ := Cond.code_spec hn v
  cases hm.symm.trans q1
  simp [Cond.before, Cond.holds, Cond.value, hn, hm, hst, hsig]
theorem own_smm {Z : State} {a0 : Array Value} {y y' : MethodName} {C : String} (w : (Cond.instanceMethod y).before a0 Z = true) (v : (Cond.selects C y' y').before a0 Z = true) (w' : (Cond.instanceMethod y').before a0 Z = true) (hc : y'.cls = y.cls) (hy : y.cls ≠ "java/lang/invoke/MethodHandle" ∧ y.cls ≠ "java/lang/invoke/VarHandle") : (Cond.sameMethod y.cls y.cls y.name y.desc).before a0 Z = true := by
  obtain ⟨m, meth, hn, -, -, -⟩ := Cond.instanceMethod_spec w
  obtain ⟨m', meth', hn', -, -, -⟩ := Cond.instanceMethod_spec w'
  have hf := State.methodFound?_of_named hn hy
  have hcl := findClass_of_methodNamed hn
  obtain ⟨kr, hk, hi⟩ := notFace_of_selects v m' hn'
  have hcl' := findClass_of_methodNamed hn'
  rw [hc, hcl] at hcl'
  rw [← Option.some.inj hcl'] at hk
  simp [Cond.before, Cond.holds, Cond.value, hcl, hf, show Z.methodNamed? ⟨y.cls, y.name, y.desc⟩ = some m from hn, hk, hi]
theorem own_su (X : Stand p l e R s m args below meth c T locs cells slots) (hx : p.tables.exec = Jvm.exec) (hZ : Z.Warmed39 s.vm) (hown : s.vm.findClass own = some m.cls) (w1 : (Cond.methodLink own index y).before a0 Z = true) (w2 : (Cond.sameMethod y.cls y.cls y.name y.desc).before a0 Z = true) (w6 : (Cond.instanceMethod y).before a0 Z = true) (w7 : (Cond.superclass own y.cls).before a0 Z = true) (w3 : (Cond.initialized y.cls).before a0 Z = true) (w4 : (Cond.code y bytes maxL ret).before a0 Z = true)
    (hy : y.name ≠ "<init>") (F : Ins Z h b C true)
    (hM : MetFree l y (head1 [Cond.code y bytes maxL ret] rm) (fun a U => a = as' ∧ Z.Warmed39 U.vm ∧ U.heap = h) (fun _ _ _ _ _ => True) (fun _ U o U' => ∃ v L, o = .returned v ∧ Q v U'.heap L ∧ FrameEnd U o U' L rm.cells rm.slots))
    (hf : rm.frames + 1 ≤ R.frames) (hl : W + (maxL + 11) + rm.locals ≤ R.locals) (hc : cells + rm.cells ≤ R.cells) (hs : slots + rm.slots ≤ R.slots) (eT : T.heap = h) (hsz : Ls.size = c.maxLocals) (hlen : ∀ sig, parseMethodDescriptor y.desc = some sig → argsL.length = sig.parameters.length)
    (hst : stk = argsL.reverse ++ .ref b :: rest) (has : (.ref b :: argsL).toArray = as') (hW : (rest.map fun v => v.category).sum ≤ W) (hd : decode c.code pc = .ok (.invokespecial index, 3))
    (k : ∀ (v : Option Value) (T' : State) (L : List Loc), Stand p l e R s m args below meth c T' (locs ++ L) (cells + rm.cells) (slots + rm.slots) → Q v T'.heap L → oG p e below K (T'.setTop (mkF m (pc + 3) Ls (v.toList ++ rest)))) : oG p e below K (T.setTop (mkF m pc Ls stk)) := by
  obtain ⟨v, _, ⟨T', L', k', n'⟩, -, X', ⟨L, hQ, h1, h2, h3⟩, st⟩ := superBack X hx hZ hown w1 w2 w6 w7 hy (backOf (W := W) hM hZ w4 w3 hf hl) eT F (g := mkF m pc Ls stk) rfl hsz w4 (argsL := argsL) (rest := rest) hlen hst (by show 2 * 0 + _ ≤ _; simpa using hW) hd (fun _ _ => ⟨has, eT, hc, hs⟩)
  dsimp only [Pt.U, Pt.locs, Pt.cells, Pt.slots] at X' h1 h2 h3 st hQ
  subst h1 h2 h3
  exact own_via st (k v T' L X' hQ)
theorem own_cv (X : Stand p l e R s m args below meth c T locs cells slots) (hx : p.tables.exec = Jvm.exec) (hZ : Z.Warmed39 s.vm) (hown : s.vm.findClass own = some m.cls) (nf : NotFace s y) (w1 : (Cond.methodLink own index y).before a0 Z = true) (w2 : (Cond.declares y).before a0 Z = true) (w5 : (Cond.selects C y z).before a0 Z = true) (w6 : (Cond.instanceMethod z).before a0 Z = true) (w3 : (Cond.initialized z.cls).before a0 Z = true) (w4 : (Cond.code z bytes maxL ret).before a0 Z = true)
    (hy : y.cls ≠ "java/lang/invoke/MethodHandle" ∧ y.cls ≠ "java/lang/invoke/VarHandle") (E : Exa Z h b C)
    (hM : MetFree l z (head1 [Cond.code z bytes maxL ret] rm) (fun a U => a = as' ∧ Z.Warmed39 U.vm ∧ U.heap = h) (fun _ _ _ _ _ => True) (fun _ U o U' => ∃ v L, o = .returned v ∧ Q v U'.heap L ∧ FrameEnd U o U' L rm.cells rm.slots))
    (hf : rm.frames + 1 ≤ R.frames) (hl : W + (maxL + 11) + rm.locals ≤ R.locals) (hc : cells + rm.cells ≤ R.cells) (hs : slots + rm.slots ≤ R.slots) (eT : T.heap = h) (hsz : Ls.size = c.maxLocals) (hlen : ∀ sig, parseMethodDescriptor y.desc = some sig → argsL.length = sig.parameters.length)
    (hst : stk = argsL.reverse ++ .ref b :: rest) (has : (.ref b :: argsL).toArray = as') (hW : (rest.map fun v => v.category).sum ≤ W) (hd : decode c.code pc = .ok (.invokevirtual index, 3))
    (k : ∀ (v : Option Value) (T' : State) (L : List Loc), Stand p l e R s m args below meth c T' (locs ++ L) (cells + rm.cells) (slots + rm.slots) → Q v T'.heap L → oG p e below K (T'.setTop (mkF m (pc + 3) Ls (v.toList ++ rest)))) : oG p e below K (T.setTop (mkF m pc Ls stk)) := by
  obtain ⟨cq, kq, qa, qb, qc⟩ := isOf hZ eT E
  obtain ⟨v, _, ⟨T', L', k', n'⟩, -, X', ⟨L, hQ, h1, h2, h3⟩, st⟩ := X.virtualBack hx (y := y) (z := z) hown (mvT hZ w1) (mvT hZ w2) nf (mvT hZ w5) (mvT hZ w6) hy (backOf (W := W) hM hZ w4 w3 hf hl) qa qc (g := mkF m pc Ls stk) rfl hsz (Steps.refl _) (argsL := argsL) (rest := rest) hlen hst (by show 2 * 0 + _ ≤ _; simpa using hW) hd (fun _ _ => ⟨has, eT, hc, hs⟩)
  dsimp only [Pt.U, Pt.locs, Pt.cells, Pt.slots] at X' h1 h2 h3 st hQ
  subst h1 h2 h3
  exact own_via st (k v T' L X' hQ)
end Calls
theorem own_ns_exa {Z : State} {h : Heap} {a : Addr} {C : String} (F : Exa Z h a C) : ∀ cell : Cell, h[a]? = some cell → cell.vm.isStatics = false := fun cell hc => by
  obtain ⟨c, _, h1, -, -, h4, -⟩ := F; cases h1.symm.trans hc; exact h4
theorem own_sta_keep {Z : State} {h h' : Heap} {C f d : String} {v : Value} {ws : List Addr} (F : Sta Z h C f d v) (K : Keep h h' ws) (q : ∀ x ∈ ws, ∀ cell : Cell, h[x]? = some cell → cell.vm.isStatics = false) : Sta Z h' C f d v := by
  obtain ⟨cf, i, k, fl, st, cell, h1, h2, h3, h4, h5, h6, h7⟩ := F
  exact ⟨cf, i, k, fl, st, cell, h1, h2, h3, h4, K.2.1 _ _ h5 (fun hm => by rw [q _ hm _ h5] at h6; cases h6), h6, h7⟩
section Wide
variable {vm0 : Vm} {Z : State} {a0 : Array Value} {EL : List (String × Nat)} {h h0 : Heap}
def own_KW (Z : State) (EL : List (String × Nat)) (s : State) (Q : Option Value → Heap → List Loc → Prop) (k n : Nat) (t : State) (o : Outcome) : Prop := ∃ v L, o = .returned v ∧ Q v t.heap L ∧ CHr Z EL s.vm s.heap t.vm t.heap ∧ ReturnedEndW s o t L k n
theorem own_endW (X : Stand p l e R (s.setVm vm0) m args below meth c T locs cells slots) {v : Option Value} (hlk : meth.locks = false) (hv : meth.sig.returnType = none → v = none) {k0 : Nat} (hS : s.Since vm0 k0) (hk0 : k0 ≤ h.size) (hZ : Z.Warmed39 vm0) (hEL : EW Z a0 EL) (hh : s.heap = h0) (eT : T.heap = h) (A : CHr Z EL s.vm h0 vm0 h) (hk : cells ≤ k) (hn : slots ≤ n) (hQ : Q v T.heap locs) {S : State}
    (st : ∀ fs, (∀ (f : JFrame) (acts : List Action), f.method = m → f.locked = none → f.entered = [] → (doReturn e (T.setTop f) acts v).1 = T.setFrames fs) → Steps p.tables e below S (T.setFrames fs)) : oG p e below (own_KW Z EL s Q k n) S := by
  subst hh eT
  obtain ⟨fs, hr, hrun, hended, hW⟩ := X.leaveW hS hk0 hv hlk
  exact ⟨_, _, st fs hr, hrun, hended, v, locs, rfl, hQ, (show CHr Z EL s.vm s.heap T.vm T.heap from A.trans (CHv.at X hZ hEL A.1)), hW.1, hW.2.1, hW.2.2.1, hW.2.2.2.mono hk hn⟩
theorem own_ret0W (X : Stand p l e R (s.setVm vm0) m args below meth c T locs cells slots) (hx : p.tables.exec = Jvm.exec) (hlk : meth.locks = false) (hret : meth.sig.returnType = none) {k0 : Nat} (hS : s.Since vm0 k0) (hk0 : k0 ≤ h.size) (hZ : Z.Warmed39 vm0) (hEL : EW Z a0 EL) (hh : s.heap = h0) (eT : T.heap = h) (A : CHr Z EL s.vm h0 vm0 h) {pc : Nat} {Ls : Array Slot} (hd : decode c.code pc = .ok (.return_, 1)) (hk : cells ≤ k) (hn : slots ≤ n) (hQ : Q none T.heap locs) :
    oG p e below (own_KW Z EL s Q k n) (T.setTop (mkF m pc Ls [])) := own_endW X hlk (fun _ => rfl) hS hk0 hZ hEL hh eT A hk hn hQ fun _ hr => X.returnOut hx hret hd hr
theorem own_retNW (X : Stand p l e R (s.setVm vm0) m args below meth c T locs cells slots) (hx : p.tables.exec = Jvm.exec) {t : FieldType} (hlk : meth.locks = false) (hret : meth.sig.returnType = some t) {k0 : Nat} (hS : s.Since vm0 k0) (hk0 : k0 ≤ h.size) (hZ : Z.Warmed39 vm0) (hEL : EW Z a0 EL) (hh : s.heap = h0) (eT : T.heap = h) (A : CHr Z EL s.vm h0 vm0 h) (ht : t = .boolean ∨ t = .byte ∨ t = .char ∨ t = .short) {pc : Nat} {Ls : Array Slot} {z : Int32} {rest : List Value} (hd : decode c.code pc = .ok (.ireturn, 1)) (hk : cells ≤ k) (hn : slots ≤ n) (hQ : Q (some (.int (nar t z))) T.heap locs) :
    oG p e below (own_KW Z EL s Q k n) (T.setTop (mkF m pc Ls (.int z :: rest))) := own_endW X hlk (fun h => by rw [hret] at h; cases h) hS hk0 hZ hEL hh eT A hk hn hQ fun _ hr => retN X hx hret ht hd hr
theorem own_retRW (X : Stand p l e R (s.setVm vm0) m args below meth c T locs cells slots) (hx : p.tables.exec = Jvm.exec) {t : FieldType} (hlk : meth.locks = false) (hret : meth.sig.returnType = some t) {k0 : Nat} (hS : s.Since vm0 k0) (hk0 : k0 ≤ h.size) (hZ : Z.Warmed39 vm0) (hEL : EW Z a0 EL) (hh : s.heap = h0) (eT : T.heap = h) (A : CHr Z EL s.vm h0 vm0 h) (ht : t.isReference = true) {pc : Nat} {Ls : Array Slot} {w : Value} {rest : List Value} (hw : w.isRef = true) (hd : decode c.code pc = .ok (.areturn, 1)) (hk : cells ≤ k) (hn : slots ≤ n) (hQ : Q (some w) T.heap locs) :
    oG p e below (own_KW Z EL s Q k n) (T.setTop (mkF m pc Ls (w :: rest))) := own_endW X hlk (fun h => by rw [hret] at h; cases h) hS hk0 hZ hEL hh eT A hk hn hQ fun _ hr => retOut X hx hret (by cases t <;> first | rfl | cases ht) (Or.inr (Or.inr (Or.inr (Or.inr ⟨rfl, ht, hw⟩)))) hd hr
variable {own : String} {index : Nat} {y z : MethodName} {bytes : ByteArray} {maxL : Nat} {ret : Option FieldType} {rm : Room} {W : Nat} {as' : Array Value} {K : State → Outcome → Prop} {pc : Nat} {Ls : Array Slot} {argsL rest stk : List Value} {C : String} {b : Addr}
theorem own_cpW (X : Stand p l e R (s.setVm vm0) m args below meth c T locs cells slots) (hx : p.tables.exec = Jvm.exec) (hZ : Z.Warmed39 vm0) (hown : vm0.findClass own = some m.cls) (hy1 : y.name = "<init>") (w1 : (Cond.methodLink own index y).before a0 Z = true) (w2 : (Cond.instanceMethod y).before a0 Z = true) (w3 : (Cond.initialized y.cls).before a0 Z = true) (w4 : (Cond.code y bytes maxL none).before a0 Z = true)
    (hy : y.cls ≠ "java/lang/invoke/MethodHandle" ∧ y.cls ≠ "java/lang/invoke/VarHandle")
    (hM : MetFree l y (head1 [Cond.code y bytes maxL none] rm) (fun a U => a = as' ∧ Z.Warmed39 U.vm ∧ U.heap = h ∧ CHv Z EL U.vm h) (fun _ _ _ _ _ => True) (fun _ U o U' => ∃ v L, o = .returned v ∧ Q v U'.heap L ∧ CHr Z EL U.vm U.heap U'.vm U'.heap ∧ ReturnedEndW U o U' L rm.cells rm.slots))
    (hf : rm.frames + 1 ≤ R.frames) (hl : W + (maxL + 11) + rm.locals ≤ R.locals) (hc : cells + rm.cells ≤ R.cells) (hs : slots + rm.slots ≤ R.slots) (eT : T.heap = h) (hEL : EW Z a0 EL) (H : CHv Z EL vm0 h) {k0 : Nat} (hS : s.Since vm0 k0) (hk : k0 ≤ h.size) (hsz : Ls.size = c.maxLocals) (hlen : ∀ sig, parseMethodDescriptor y.desc = some sig → argsL.length = sig.parameters.length)
    (hst : stk = argsL.reverse ++ .ref b :: rest) (has : (.ref b :: argsL).toArray = as') (hW : (rest.map fun v => v.category).sum ≤ W) (hd : decode c.code pc = .ok (.invokespecial index, 3))
    (k : ∀ (v : Option Value) (T' : State) (L : List Loc), Stand p l e R (s.setVm T'.vm) m args below meth c T' (locs ++ L) (cells + rm.cells) (slots + rm.slots) → Q v T'.heap L → CHr Z EL vm0 h T'.vm T'.heap → s.Since T'.vm T'.heap.size → Z.Warmed39 T'.vm → T'.vm.findClass own = some m.cls → oG p e below K (T'.setTop (mkF m (pc + 3) Ls (v.toList ++ rest)))) : oG p e below K (T.setTop (mkF m pc Ls stk)) := by
  obtain ⟨v, _, ⟨T', L', k', n'⟩, -, X', hS', hg, ⟨L, hQ, h1, h2, h3, hA⟩, st⟩ := X.specialBackS hx (y := y) hy1 hown (mvT (s := s.setVm vm0) hZ w1) (mvT (s := s.setVm vm0) hZ w2) (mvT (s := s.setVm vm0) hZ w4) hy (backOfSH (W := W) hM hZ w4 w3 hf hl hEL H) (g := mkF m pc Ls stk) rfl hsz (Steps.refl _) (a := b) (argsL := argsL) (rest := rest) hlen hst (by show 2 * 0 + _ ≤ _; simpa using hW) hd (fun _ _ => ⟨has, eT, hc, hs⟩)
  dsimp only [Pt.U, Pt.locs, Pt.cells, Pt.slots] at X' h1 h2 h3 st hQ hS' hg hA
  subst h1 h2 h3
  subst eT
  exact own_via st (k v T' L X' hQ hA (foldS hS hk hS' hg) (State.Warmed39.trans (t := s.setVm vm0) hZ hS'.1) (by rw [hS'.1.alike.findClass]; exact hown))
theorem own_cvW (X : Stand p l e R (s.setVm vm0) m args below meth c T locs cells slots) (hx : p.tables.exec = Jvm.exec) (hZ : Z.Warmed39 vm0) (hown : vm0.findClass own = some m.cls) (nf : NotFace (s.setVm vm0) y) (w1 : (Cond.methodLink own index y).before a0 Z = true) (w2 : (Cond.declares y).before a0 Z = true) (w5 : (Cond.selects C y z).before a0 Z = true) (w6 : (Cond.instanceMethod z).before a0 Z = true) (w3 : (Cond.initialized z.cls).before a0 Z = true) (w4 : (Cond.code z bytes maxL ret).before a0 Z = true)
    (hy : y.cls ≠ "java/lang/invoke/MethodHandle" ∧ y.cls ≠ "java/lang/invoke/VarHandle") (E : Exa Z h b C)
    (hM : MetFree l z (head1 [Cond.code z bytes maxL ret] rm) (fun a U => a = as' ∧ Z.Warmed39 U.vm ∧ U.heap = h ∧ CHv Z EL U.vm h) (fun _ _ _ _ _ => True) (fun _ U o U' => ∃ v L, o = .returned v ∧ Q v U'.heap L ∧ CHr Z EL U.vm U.heap U'.vm U'.heap ∧ ReturnedEndW U o U' L rm.cells rm.slots))
    (hf : rm.frames + 1 ≤ R.frames) (hl : W + (maxL + 11) + rm.locals ≤ R.locals) (hc : cells + rm.cells ≤ R.cells) (hs : slots + rm.slots ≤ R.slots) (eT : T.heap = h) (hEL : EW Z a0 EL) (H : CHv Z EL vm0 h) {k0 : Nat} (hS : s.Since vm0 k0) (hk : k0 ≤ h.size) (hsz : Ls.size = c.maxLocals) (hlen : ∀ sig, parseMethodDescriptor y.desc = some sig → argsL.length = sig.parameters.length)
    (hst : stk = argsL.reverse ++ .ref b :: rest) (has : (.ref b :: argsL).toArray = as') (hW : (rest.map fun v => v.category).sum ≤ W) (hd : decode c.code pc = .ok (.invokevirtual index, 3))
    (k : ∀ (v : Option Value) (T' : State) (L : List Loc), Stand p l e R (s.setVm T'.vm) m args below meth c T' (locs ++ L) (cells + rm.cells) (slots + rm.slots) → Q v T'.heap L → CHr Z EL vm0 h T'.vm T'.heap → s.Since T'.vm T'.heap.size → Z.Warmed39 T'.vm → T'.vm.findClass own = some m.cls → oG p e below K (T'.setTop (mkF m (pc + 3) Ls (v.toList ++ rest)))) : oG p e below K (T.setTop (mkF m pc Ls stk)) := by
  obtain ⟨cq, kq, qa, qb, qc⟩ := isOf (s := s.setVm vm0) hZ eT E
  obtain ⟨v, _, ⟨T', L', k', n'⟩, -, X', hS', hg, ⟨L, hQ, h1, h2, h3, hA⟩, st⟩ := X.virtualBackS hx (y := y) (z := z) hown (mvT (s := s.setVm vm0) hZ w1) (mvT (s := s.setVm vm0) hZ w2) nf (mvT (s := s.setVm vm0) hZ w5) (mvT (s := s.setVm vm0) hZ w6) hy (backOfSH (W := W) hM hZ w4 w3 hf hl hEL H) qa qc (g := mkF m pc Ls stk) rfl hsz (Steps.refl _) (argsL := argsL) (rest := rest) hlen hst (by show 2 * 0 + _ ≤ _; simpa using hW) hd (fun _ _ => ⟨has, eT, hc, hs⟩)
  dsimp only [Pt.U, Pt.locs, Pt.cells, Pt.slots] at X' h1 h2 h3 st hQ hS' hg hA
  subst h1 h2 h3
  subst eT
  exact own_via st (k v T' L X' hQ hA (foldS hS hk hS' hg) (State.Warmed39.trans (t := s.setVm vm0) hZ hS'.1) (by rw [hS'.1.alike.findClass]; exact hown))
/-- a String whose array isn't laid yet is nobody's constant -/
theorem own_safe_null {vm : Vm} {a : Addr} (hal : Z.vm.Alike vm) (E : Exa Z h a "java/lang/String") (F : Fld Z h a "java/lang/String" "value" "[B" .null) : Safe Z EL vm h a := fun B => by
  obtain ⟨p, -, u, a', -, q, rfl, G, r⟩ := B
  obtain ⟨cS, ⟨⟨s1, -, -, ⟨cv, kv, iv, s4, -⟩, -, -, -, s8, -⟩, -⟩, -, hB, -⟩ := id G
  have hd := G.hd
  rcases r with rfl | rfl
  · obtain ⟨cell, cf, k, i, f, h1, h2, -, -, -, -, h7⟩ := F
    cases h1.symm.trans s1
    obtain ⟨k', e3, -⟩ := State.fieldFound?_setVm (s := Z) hal h2
    have e4 := (show (Wst Z vm h).fieldFound? _ _ _ = _ from e3).symm.trans s4
    simp only [Option.some.injEq, Prod.mk.injEq] at e4
    rw [e4.2.2.2, s8] at h7
    cases h7
  · obtain ⟨cell, k, h1, h2, -⟩ := E
    cases h1.symm.trans hd
    have h3 : vm.findClass "[B" = some q.SA.cls := hB
    rw [hal.findClass] at h3
    obtain ⟨k1, a1, a2⟩ := Vm.findClass_spec h2
    obtain ⟨k2, b1, b2⟩ := Vm.findClass_spec h3
    cases a1.symm.trans b1
    exact absurd (a2.symm.trans b2) (by decide)
end Wide
end Own
end Jvm.RoadKit
/- laws to paste: Road.backV, Road.lenW, Road.chN, Road.codOf (cut by pick.py; bodies as the Statement names them) -/
namespace Jvm.Pilot.@@N@@
namespace StrChars
open Jvm Sem ClassFile Op Lib Jvm.Stand Jvm.Free.XT Jvm.Free.ALB Jvm.Free.JM Jvm.Free
open Jvm.Lib.Cold (StaticIs)
/-- a char array whose places are chars -/
def Ch (a : Addr) (A : Cell) (U : State) : Prop := Arr .char a A U ∧ Typed .char A
theorem Ch.mv {a : Addr} {A : Cell} {U U' : State} (h : Ch a A U) (hal : U.vm.Alike U'.vm) (hh : U'.heap = U.heap) : Ch a A U' := ⟨h.1.mv hal hh, h.2⟩
theorem Ch.keep {a : Addr} {A : Cell} {U U' : State} (h : Ch a A U) (hal : U.vm.Alike U'.vm) (hk : U'.heap[a]? = some A) : Ch a A U' := ⟨h.1.keep hal hk, h.2⟩
/-- what place i of a char[]'s cell holds -/
def cv (A : Cell) (i : Nat) : Int32 := match A.slots[i]? with | some (.int x) => x | _ => 0
theorem Ch.get {a : Addr} {A : Cell} {U : State} (h : Ch a A U) {i : Nat} (hi : i < A.slots.size) : A.slots[i]? = some (.int (cv A i)) := by
  have e := Array.getElem?_eq_getElem hi
  have f := h.2 i _ e
  unfold cv; rw [e]
  generalize A.slots[i] = v at f
  cases v <;> simp [fits] at f ⊢
/-- the byte that i2b leaves of a char -/
def lo8 (x : Int32) : Int32 := x.toInt8.toInt32
theorem fits_lo8 (y : Int32) : fits .byte (.int (lo8 y)) = true := by
  have h1 := y.toInt8.le_toInt
  have h2 := y.toInt8.toInt_lt
  simp only [lo8, fits, Bool.and_eq_true, decide_eq_true_eq, Int32.le_iff_toInt_le, Int8.toInt_toInt32, show (-128 : Int32).toInt = -128 from by decide, show (127 : Int32).toInt = 127 from by decide]
  omega
/-- A' is A but that each place j of lo .. hi - 1 holds f j -/
def Laid (A A' : Cell) (lo hi : Nat) (f : Nat → Value) : Prop := A'.cls = A.cls ∧ A'.vm = A.vm ∧ A'.slots.size = A.slots.size ∧ ∀ i, A'.slots[i]? = if lo ≤ i ∧ i < hi then some (f i) else A.slots[i]?
theorem Laid.zero (A : Cell) (lo : Nat) (f : Nat → Value) : Laid A A lo (lo + 0) f := ⟨rfl, rfl, rfl, fun i => by rw [if_neg (by omega)]⟩
theorem Laid.step {A Ak : Cell} {lo k : Nat} {f : Nat → Value} {v : Value} (h : Laid A Ak lo k f) (hlo : lo ≤ k) (hk : k < Ak.slots.size) (hv : v = f k) : Laid A (Ak.setSlot k v) lo (k + 1) f := by
  refine ⟨h.1, h.2.1, by simpa [Cell.setSlot] using h.2.2.1, fun i => ?_⟩
  by_cases e : k = i
  · subst e; rw [Cell.slots_setSlot_self v hk, if_pos (by omega), hv]
  · rw [Cell.slots_setSlot_ne v e, h.2.2.2 i]
    by_cases q : lo ≤ i ∧ i < k
    · rw [if_pos q, if_pos (by omega)]
    · rw [if_neg q, if_neg (by omega)]
def U16 : String := "java/lang/StringUTF16"
namespace Cmp5
def yN : MethodName := ⟨"java/lang/StringUTF16", "compress", "([CI[BII)I"⟩
abbrev yB : ByteArray := jdk_52_method_21_code
theorem d0 : decode yB 0 = .ok (.iconst 0, 1) := by decide +kernel
theorem d1 : decode yB 1 = .ok (.istore 5, 2) := by decide +kernel
theorem d3 : decode yB 3 = .ok (.iload 5, 2) := by decide +kernel
theorem d5 : decode yB 5 = .ok (.iload 4, 2) := by decide +kernel
theorem d7 : decode yB 7 = .ok (.if_icmp (.ge) 37, 3) := by decide +kernel
theorem d10 : decode yB 10 = .ok (.aload_n 0, 1) := by decide +kernel
theorem d11 : decode yB 11 = .ok (.iload_n 1, 1) := by decide +kernel
theorem d12 : decode yB 12 = .ok (.caload, 1) := by decide +kernel
theorem d13 : decode yB 13 = .ok (.istore 6, 2) := by decide +kernel
theorem d15 : decode yB 15 = .ok (.iload 6, 2) := by decide +kernel
theorem d17 : decode yB 17 = .ok (.sipush 255, 3) := by decide +kernel
theorem d20 : decode yB 20 = .ok (.if_icmp (.le) 6, 3) := by decide +kernel
theorem d26 : decode yB 26 = .ok (.aload_n 2, 1) := by decide +kernel
theorem d27 : decode yB 27 = .ok (.iload_n 3, 1) := by decide +kernel
theorem d28 : decode yB 28 = .ok (.iload 6, 2) := by decide +kernel
theorem d30 : decode yB 30 = .ok (.i2b, 1) := by decide +kernel
theorem d31 : decode yB 31 = .ok (.bastore, 1) := by decide +kernel
theorem d32 : decode yB 32 = .ok (.iinc 1 1, 3) := by decide +kernel
theorem d35 : decode yB 35 = .ok (.iinc 3 1, 3) := by decide +kernel
theorem d38 : decode yB 38 = .ok (.iinc 5 1, 3) := by decide +kernel
theorem d41 : decode yB 41 = .ok (.goto (-38), 3) := by decide +kernel
theorem d44 : decode yB 44 = .ok (.iload 4, 2) := by decide +kernel
theorem d46 : decode yB 46 = .ok (.ireturn, 1) := by decide +kernel
def site : List Cond := []
def tab : Cond := tabOf yN yB 7 (some .int) site
def P (b : Addr) (A : Cell) (d : Addr) (B : Cell) (o q len : Nat) (args : Array Value) (s : State) : Prop := args = #[.ref b, .int (Int32.ofNat o), .ref d, .int (Int32.ofNat q), .int (Int32.ofNat len)] ∧ Ch b A s ∧ Arr .byte d B s ∧ b ≠ d ∧ o + len ≤ A.slots.size ∧ q + len ≤ B.slots.size ∧ ∀ i, i < len → ¬ 255 < cv A (o + i)
def E (b : Addr) (A : Cell) (d : Addr) (B : Cell) (o q len : Nat) (r : Option Value) (s u : State) : Prop := r = some (.int (Int32.ofNat len)) ∧ ∃ B', Put d B' s u ∧ Laid B B' q (q + len) (fun j => Value.int (lo8 (cv A (o + (j - q)))))
/-- no char of the range above 255: len; the places written hold each char's low byte -/
theorem law (l : Launch) (b : Addr) (A : Cell) (d : Addr) (B : Cell) (o q len : Nat) : Law l yN 5 5 0 0 yB 7 (some .int) site (P b A d B o q len) (E b A d B o q len) (copyLocs d q len) 0 0 := by
  refine Law.of_walk (plainFor_of_name (by decide +kernel)) (by decide +kernel) (by decide +kernel) (by decide) (fun _ _ h => by rw [h.1]; rfl) (fun _ U U' hal hh h => ⟨h.1, h.2.1.mv hal hh, h.2.2.1.mv hal hh, h.2.2.2⟩) (fun r U U' V V' h1 hal h2 h => ⟨h.1, h.2.elim fun B' q => ⟨B', q.1.mv h1 h2, q.2⟩⟩) ?_
  intro p e s m args below meth c s₁ X0 hexec hbytes hml hret hlk hnm hown hh0 W hP
  obtain ⟨rfl, hA, hB, hne, l1, l2, hp⟩ := hP
  have c1 : Steps p.tables e below (s₁.setTop (entryFrame m #[.ref b, .int (Int32.ofNat o), .ref d, .int (Int32.ofNat q), .int (Int32.ofNat len)] 7)) (s₁.setTop (mkF m 0 #[.val (.ref b), .val (.int (Int32.ofNat o)), .val (.ref d), .val (.int (Int32.ofNat q)), .val (.int (Int32.ofNat len)), .unset, .unset] [])) := entry rfl
  have hA0 := hA.1.mv X0.warmed.alike hh0
  have hB0 := hB.mv X0.warmed.alike hh0
  have a31 := hA.1.2.2.2
  have c2 : Steps p.tables e below (s₁.setTop (entryFrame m #[.ref b, .int (Int32.ofNat o), .ref d, .int (Int32.ofNat q), .int (Int32.ofNat len)] 7)) (s₁.setTop (mkF m 3 #[.val (.ref b), .val (.int (Int32.ofNat o)), .val (.ref d), .val (.int (Int32.ofNat q)), .val (.int (Int32.ofNat len)), .val (.int 0), .unset] [])) := c1.trans (by
    refine iconstV X0.here hexec rfl 0 (hb hbytes d0) (by decide) ?_
    refine XS.istore X0.here hexec rfl (hb hbytes d1) rfl rfl ?_
    exact Steps.refl _)
  have loop : ∀ (r i : Nat), i + r = len → ∀ (z : Slot), (z = .unset ∨ ∃ w, z = .val w ∧ w.category = 1) → ∀ (Tl : State) (Bk : Cell), Stand p l e { frames := 0, locals := 0, cells := 0, slots := 0 } s m #[.ref b, .int (Int32.ofNat o), .ref d, .int (Int32.ofNat q), .int (Int32.ofNat len)] below meth c Tl ([] ++ copyLocs d q i) 0 0 → Put d Bk s₁ Tl → Laid B Bk q (q + i) (fun j => Value.int (lo8 (cv A (o + (j - q))))) →
      Steps p.tables e below (s₁.setTop (entryFrame m #[.ref b, .int (Int32.ofNat o), .ref d, .int (Int32.ofNat q), .int (Int32.ofNat len)] 7)) (Tl.setTop (mkF m 3 #[.val (.ref b), .val (.int (Int32.ofNat (o + i))), .val (.ref d), .val (.int (Int32.ofNat (q + i))), .val (.int (Int32.ofNat len)), .val (.int (Int32.ofNat i)), z] [])) → ∃ (T' : State) (B' : Cell) (z' : Slot), Stand p l e { frames := 0, locals := 0, cells := 0, slots := 0 } s m #[.ref b, .int (Int32.ofNat o), .ref d, .int (Int32.ofNat q), .int (Int32.ofNat len)] below meth c T' ([] ++ copyLocs d q len) 0 0 ∧ Put d B' s₁ T' ∧ Laid B B' q (q + len) (fun j => Value.int (lo8 (cv A (o + (j - q))))) ∧
      Steps p.tables e below (s₁.setTop (entryFrame m #[.ref b, .int (Int32.ofNat o), .ref d, .int (Int32.ofNat q), .int (Int32.ofNat len)] 7)) (T'.setTop (mkF m 3 #[.val (.ref b), .val (.int (Int32.ofNat (o + len))), .val (.ref d), .val (.int (Int32.ofNat (q + len))), .val (.int (Int32.ofNat len)), .val (.int (Int32.ofNat len)), z'] [])) := by
    intro r
    induction r with
    | zero =>
      intro i hi z hz Tl Bk Xl pl fl cl
      have hil : i = len := by omega
      rw [hil] at Xl fl cl
      exact ⟨Tl, Bk, z, Xl, pl, fl, cl⟩
    | succ r ih =>
      intro i hi z hz Tl Bk Xl pl fl cl
      have all := X0.warmed.alike.symm.trans Xl.warmed.alike
      have hAl := hA0.keep all (pl.other hne hA0.1)
      have hBk := hB0.like all pl.1 fl.1 fl.2.1 fl.2.2.1
      have hlt : q + i < Bk.slots.size := by rw [fl.2.2.1]; omega
      have c3 : Steps p.tables e below (s₁.setTop (entryFrame m #[.ref b, .int (Int32.ofNat o), .ref d, .int (Int32.ofNat q), .int (Int32.ofNat len)] 7)) (Tl.setTop (mkF m 12 #[.val (.ref b), .val (.int (Int32.ofNat (o + i))), .val (.ref d), .val (.int (Int32.ofNat (q + i))), .val (.int (Int32.ofNat len)), .val (.int (Int32.ofNat i)), z] [.int (Int32.ofNat (o + i)), .ref b])) := cl.trans (by
        refine XS.iload Xl.here hexec rfl (hb hbytes d3) rfl ?_
        refine XS.iload Xl.here hexec rfl (hb hbytes d5) rfl ?_
        refine XS.icmpNo Xl.here hexec rfl (hb hbytes d7) rfl (ii_ge_f (lt32 (by omega) (by omega))) ?_
        refine XS.aloadN Xl.here hexec rfl (hb hbytes d10) rfl rfl ?_
        refine XS.iloadN Xl.here hexec rfl (hb hbytes d11) rfl ?_
        exact Steps.refl _)
      have c4 : Steps p.tables e below (s₁.setTop (entryFrame m #[.ref b, .int (Int32.ofNat o), .ref d, .int (Int32.ofNat q), .int (Int32.ofNat len)] 7)) (Tl.setTop (mkF m 13 #[.val (.ref b), .val (.int (Int32.ofNat (o + i))), .val (.ref d), .val (.int (Int32.ofNat (q + i))), .val (.int (Int32.ofNat len)), .val (.int (Int32.ofNat i)), z] [.int (cv A (o + i))])) := c3.trans (by
        refine Xl.aget hexec hAl rfl (hA.get (i := o + i) (by omega)) rfl rfl (hb hbytes d12) ?_
        exact Steps.refl _)
      have c5 : Steps p.tables e below (s₁.setTop (entryFrame m #[.ref b, .int (Int32.ofNat o), .ref d, .int (Int32.ofNat q), .int (Int32.ofNat len)] 7)) (Tl.setTop (mkF m 15 #[.val (.ref b), .val (.int (Int32.ofNat (o + i))), .val (.ref d), .val (.int (Int32.ofNat (q + i))), .val (.int (Int32.ofNat len)), .val (.int (Int32.ofNat i)), .val (.int (cv A (o + i)))] [])) := c4.trans (by
        refine XS.istoreS Xl.here hexec rfl (hb hbytes d13) rfl rfl hz ?_
        exact Steps.refl _)
      have c6 : Steps p.tables e below (s₁.setTop (entryFrame m #[.ref b, .int (Int32.ofNat o), .ref d, .int (Int32.ofNat q), .int (Int32.ofNat len)] 7)) (Tl.setTop (mkF m 31 #[.val (.ref b), .val (.int (Int32.ofNat (o + i))), .val (.ref d), .val (.int (Int32.ofNat (q + i))), .val (.int (Int32.ofNat len)), .val (.int (Int32.ofNat i)), .val (.int (cv A (o + i)))] [.int (lo8 (cv A (o + i))), .int (Int32.ofNat (q + i)), .ref d])) := c5.trans (by
        refine XS.iload Xl.here hexec rfl (hb hbytes d15) rfl ?_
        refine sipushV Xl.here hexec rfl 255 (hb hbytes d17) (by decide) ?_
        refine XS.icmpYes Xl.here hexec rfl (pc0 := 20) rfl (hb hbytes d20) rfl (ii_le_t (hp i (by omega))) (by decide) rfl ?_
        refine XS.aloadN Xl.here hexec rfl (hb hbytes d26) rfl rfl ?_
        refine XS.iloadN Xl.here hexec rfl (hb hbytes d27) rfl ?_
        refine XS.iload Xl.here hexec rfl (hb hbytes d28) rfl ?_
        refine i2b Xl.here hexec rfl (hb hbytes d30) rfl ?_
        exact Steps.refl _)
      obtain ⟨T7, X7, p7, st7⟩ := Xl.aput hexec hBk rfl hlt rfl (fits_lo8 (cv A (o + i))) (g := (mkF m 31 #[.val (.ref b), .val (.int (Int32.ofNat (o + i))), .val (.ref d), .val (.int (Int32.ofNat (q + i))), .val (.int (Int32.ofNat len)), .val (.int (Int32.ofNat i)), .val (.int (cv A (o + i)))] [.int (lo8 (cv A (o + i))), .int (Int32.ofNat (q + i)), .ref d])) rfl (rest := []) rfl (hb hbytes d31)
      have c8 : Steps p.tables e below (s₁.setTop (entryFrame m #[.ref b, .int (Int32.ofNat o), .ref d, .int (Int32.ofNat q), .int (Int32.ofNat len)] 7)) (T7.setTop (mkF m 32 #[.val (.ref b), .val (.int (Int32.ofNat (o + i))), .val (.ref d), .val (.int (Int32.ofNat (q + i))), .val (.int (Int32.ofNat len)), .val (.int (Int32.ofNat i)), .val (.int (cv A (o + i)))] [])) := c6.trans (st7 _ (Steps.refl _))
      have c9 : Steps p.tables e below (s₁.setTop (entryFrame m #[.ref b, .int (Int32.ofNat o), .ref d, .int (Int32.ofNat q), .int (Int32.ofNat len)] 7)) (T7.setTop (mkF m 3 #[.val (.ref b), .val (.int (Int32.ofNat (o + i) + 1)), .val (.ref d), .val (.int (Int32.ofNat (q + i) + 1)), .val (.int (Int32.ofNat len)), .val (.int (Int32.ofNat i + 1)), .val (.int (cv A (o + i)))] [])) := c8.trans (by
        refine iincV X7.here hexec rfl 1 (hb hbytes d32) (by decide) rfl rfl ?_
        refine iincV X7.here hexec rfl 1 (hb hbytes d35) (by decide) rfl rfl ?_
        refine iincV X7.here hexec rfl 1 (hb hbytes d38) (by decide) rfl rfl ?_
        refine XS.goto X7.here hexec rfl (pc0 := 41) rfl (hb hbytes d41) (by decide) rfl ?_
        exact Steps.refl _)
      have c10 : Steps p.tables e below (s₁.setTop (entryFrame m #[.ref b, .int (Int32.ofNat o), .ref d, .int (Int32.ofNat q), .int (Int32.ofNat len)] 7)) (T7.setTop (mkF m 3 #[.val (.ref b), .val (.int (Int32.ofNat (o + (i + 1)))), .val (.ref d), .val (.int (Int32.ofNat (q + (i + 1)))), .val (.int (Int32.ofNat len)), .val (.int (Int32.ofNat (i + 1))), .val (.int (cv A (o + i)))] [])) := by
        have := c9
        rw [succ32, succ32, succ32] at this
        exact this
      exact ih (i + 1) (by omega) _ (Or.inr ⟨_, rfl, rfl⟩) T7 _ (by rw [copyLocs_step, ← List.append_assoc]; exact X7) (pl.trans p7) (fl.step (by omega) hlt (by simp)) c10
  obtain ⟨T9, B9, z9, X9, p9, f9, g9⟩ := loop len 0 (by omega) .unset (Or.inl rfl) s₁ B (by simpa [copyLocs] using X0) ⟨hB0.1, fun _ _ => rfl, rfl⟩ (Laid.zero _ _ _) c2
  have c11 : Steps p.tables e below (s₁.setTop (entryFrame m #[.ref b, .int (Int32.ofNat o), .ref d, .int (Int32.ofNat q), .int (Int32.ofNat len)] 7)) (T9.setTop (mkF m 46 #[.val (.ref b), .val (.int (Int32.ofNat (o + len))), .val (.ref d), .val (.int (Int32.ofNat (q + len))), .val (.int (Int32.ofNat len)), .val (.int (Int32.ofNat len)), z9] [.int (Int32.ofNat len)])) := g9.trans (by
    refine XS.iload X9.here hexec rfl (hb hbytes d3) rfl ?_
    refine XS.iload X9.here hexec rfl (hb hbytes d5) rfl ?_
    refine XS.icmpYes X9.here hexec rfl (pc0 := 7) rfl (hb hbytes d7) rfl (ii_ge_t (nlt32 (by omega) (Nat.le_refl _))) (by decide) rfl ?_
    refine XS.iload X9.here hexec rfl (hb hbytes d44) rfl ?_
    exact Steps.refl _)
  exact ⟨T9, some (.int (Int32.ofNat len)), _, _, _, X9, by simp, rfl, rfl, (fun h => by cases h), ⟨rfl, B9, p9.from hh0, f9⟩, fun fs hl => c11.trans (X9.ireturnOut hexec hret rfl (Or.inl rfl) (hb hbytes d46) hl)⟩
end Cmp5
namespace Cmp3
def yN : MethodName := ⟨"java/lang/StringUTF16", "compress", "([CII)[B"⟩
abbrev yB : ByteArray := jdk_52_method_16_code
theorem d0 : decode yB 0 = .ok (.iload_n 2, 1) := by decide +kernel
theorem d1 : decode yB 1 = .ok (.newarray .byte, 2) := by decide +kernel
theorem d3 : decode yB 3 = .ok (.astore_n 3, 1) := by decide +kernel
theorem d4 : decode yB 4 = .ok (.aload_n 0, 1) := by decide +kernel
theorem d5 : decode yB 5 = .ok (.iload_n 1, 1) := by decide +kernel
theorem d6 : decode yB 6 = .ok (.aload_n 3, 1) := by decide +kernel
theorem d7 : decode yB 7 = .ok (.iconst 0, 1) := by decide +kernel
theorem d8 : decode yB 8 = .ok (.iload_n 2, 1) := by decide +kernel
theorem d9 : decode yB 9 = .ok (.invokestatic 115, 3) := by decide +kernel
theorem d12 : decode yB 12 = .ok (.istore 4, 2) := by decide +kernel
theorem d14 : decode yB 14 = .ok (.iload 4, 2) := by decide +kernel
theorem d16 : decode yB 16 = .ok (.iload_n 2, 1) := by decide +kernel
theorem d17 : decode yB 17 = .ok (.if_icmp (.eq) 40, 3) := by decide +kernel
theorem d57 : decode yB 57 = .ok (.aload_n 3, 1) := by decide +kernel
theorem d58 : decode yB 58 = .ok (.areturn, 1) := by decide +kernel
def site : List Cond := [.arrayClass .byte, Cmp5.tab] ++ staticW U16 115 Cmp5.yN
def tab : Cond := tabOf yN yB 6 (some (.array .byte)) site
def P (b : Addr) (A : Cell) (o len : Nat) (args : Array Value) (s : State) : Prop := args = #[.ref b, .int (Int32.ofNat o), .int (Int32.ofNat len)] ∧ Ch b A s ∧ o + len ≤ A.slots.size ∧ len ≤ 536870912 ∧ ∀ i, i < len → ¬ 255 < cv A (o + i)
def E (b : Addr) (A : Cell) (o len : Nat) (r : Option Value) (s u : State) : Prop := NewArr .byte "[B" len (fun j => .int (lo8 (cv A (o + j)))) r s u ∧ u.heap.size = s.heap.size + 1
/-- no char of the range above 255: a new byte[] of their low bytes -/
theorem law (l : Launch) (b : Addr) (A : Cell) (o len : Nat) : Law l yN 3 3 1 18 yB 6 (some (.array .byte)) site (P b A o len) (E b A o len) [] 1 len := by
  refine Law.of_walk (plainFor_of_name (by decide +kernel)) (by decide +kernel) (by decide +kernel) (by decide) (fun _ _ h => by rw [h.1]; rfl) (fun _ U U' hal hh h => ⟨h.1, h.2.1.mv hal hh, h.2.2⟩) (fun r U U' V V' h1 hal h2 h => ⟨NewArr.mv r U U' V V' h1 hal h2 h.1, by rw [h1, h2]; exact h.2⟩) ?_
  intro p e s m args below meth c s₁ X0 hexec hbytes hml hret hlk hnm hown hh0 W hP
  obtain ⟨rfl, hA, l1, l2, hp⟩ := hP
  have a31 := hA.1.2.2.2
  have c1 : Steps p.tables e below (s₁.setTop (entryFrame m #[.ref b, .int (Int32.ofNat o), .int (Int32.ofNat len)] 6)) (s₁.setTop (mkF m 0 #[.val (.ref b), .val (.int (Int32.ofNat o)), .val (.int (Int32.ofNat len)), .unset, .unset, .unset] [])) := entry rfl
  have c2 : Steps p.tables e below (s₁.setTop (entryFrame m #[.ref b, .int (Int32.ofNat o), .int (Int32.ofNat len)] 6)) (s₁.setTop (mkF m 1 #[.val (.ref b), .val (.int (Int32.ofNat o)), .val (.int (Int32.ofNat len)), .unset, .unset, .unset] [.int (Int32.ofNat len)])) := c1.trans (by
    refine XS.iloadN X0.here hexec rfl (hb hbytes d0) rfl ?_
    exact Steps.refl _)
  obtain ⟨T3, B3, X3, ba3, bs3, bv3, bh3, bf3, st3⟩ := X0.anew hexec (atype := .byte) (wk W (.arrayClass .byte)) rfl (by show len * 1 ≤ _; omega) (by omega) (g := (mkF m 1 #[.val (.ref b), .val (.int (Int32.ofNat o)), .val (.int (Int32.ofNat len)), .unset, .unset, .unset] [.int (Int32.ofNat len)])) rfl (hb hbytes d1) (rest := []) rfl (Nat.le_refl _) (by show 0 + len ≤ len; omega)
  rw [hh0] at ba3 st3
  have kp3 : XT.Kept s T3 := (XT.Kept.of_eq hh0).push bh3
  have hA3 := hA.keep X3.warmed.alike (kp3 _ _ hA.1.1)
  have hne : b ≠ s.heap.size := hA.1.ne
  have c4 : Steps p.tables e below (s₁.setTop (entryFrame m #[.ref b, .int (Int32.ofNat o), .int (Int32.ofNat len)] 6)) (T3.setTop (mkF m 3 #[.val (.ref b), .val (.int (Int32.ofNat o)), .val (.int (Int32.ofNat len)), .unset, .unset, .unset] [.ref s.heap.size])) := c2.trans (st3 _ (Steps.refl _))
  have c5 : Steps p.tables e below (s₁.setTop (entryFrame m #[.ref b, .int (Int32.ofNat o), .int (Int32.ofNat len)] 6)) (T3.setTop (mkF m 9 #[.val (.ref b), .val (.int (Int32.ofNat o)), .val (.int (Int32.ofNat len)), .val (.ref s.heap.size), .unset, .unset] [.int (Int32.ofNat len), .int 0, .ref s.heap.size, .int (Int32.ofNat o), .ref b])) := c4.trans (by
    refine XS.astoreN X3.here hexec rfl (hb hbytes d3) rfl rfl rfl ?_
    refine XS.aloadN X3.here hexec rfl (hb hbytes d4) rfl rfl ?_
    refine XS.iloadN X3.here hexec rfl (hb hbytes d5) rfl ?_
    refine XS.aloadN X3.here hexec rfl (hb hbytes d6) rfl rfl ?_
    refine iconstV X3.here hexec rfl 0 (hb hbytes d7) (by decide) ?_
    refine XS.iloadN X3.here hexec rfl (hb hbytes d8) rfl ?_
    exact Steps.refl _)
  obtain ⟨v6, T6, X6, E6, g6⟩ := X3.callS hexec (Cmp5.law l b A s.heap.size B3 o 0 len) hown (wks W (staticW U16 115 Cmp5.yN)) (wk W Cmp5.tab) (W := 0) (Nat.le_of_ble_eq_true rfl) (Nat.le_of_ble_eq_true rfl) (Nat.le_refl _) (by show 0 + len + 0 ≤ len; omega) (g := (mkF m 9 #[.val (.ref b), .val (.int (Int32.ofNat o)), .val (.int (Int32.ofNat len)), .val (.ref s.heap.size), .unset, .unset] [.int (Int32.ofNat len), .int (Int32.ofNat 0), .ref s.heap.size, .int (Int32.ofNat o), .ref b])) rfl (by rw [hml]; rfl) c5 (argsL := [.ref b, .int (Int32.ofNat o), .ref s.heap.size, .int (Int32.ofNat 0), .int (Int32.ofNat len)]) (rest := []) rfl rfl (by show 2 * 0 + 0 ≤ _; decide) (hb hbytes d9) (⟨rfl, hA3, ba3, hne, l1, by rw [bs3]; simp, hp⟩)
  obtain ⟨rfl, B6, p6, f6⟩ := E6
  have c7 : Steps p.tables e below (s₁.setTop (entryFrame m #[.ref b, .int (Int32.ofNat o), .int (Int32.ofNat len)] 6)) (T6.setTop (mkF m 12 #[.val (.ref b), .val (.int (Int32.ofNat o)), .val (.int (Int32.ofNat len)), .val (.ref s.heap.size), .unset, .unset] [.int (Int32.ofNat len)])) := g6
  have c8 : Steps p.tables e below (s₁.setTop (entryFrame m #[.ref b, .int (Int32.ofNat o), .int (Int32.ofNat len)] 6)) (T6.setTop (mkF m 58 #[.val (.ref b), .val (.int (Int32.ofNat o)), .val (.int (Int32.ofNat len)), .val (.ref s.heap.size), .val (.int (Int32.ofNat len)), .unset] [.ref s.heap.size])) := c7.trans (by
    refine XS.istore X6.here hexec rfl (hb hbytes d12) rfl rfl ?_
    refine XS.iload X6.here hexec rfl (hb hbytes d14) rfl ?_
    refine XS.iloadN X6.here hexec rfl (hb hbytes d16) rfl ?_
    refine XS.icmpYes X6.here hexec rfl (pc0 := 17) rfl (hb hbytes d17) rfl (ii_eq_t rfl) (by decide) rfl ?_
    refine XS.aloadN X6.here hexec rfl (hb hbytes d57) rfl rfl ?_
    exact Steps.refl _)
  have X8 := X6.wide (L' := []) (cells' := 1) (slots' := len) (fun x hx hlt => by
    simp only [List.nil_append, copyLocs, List.mem_map, List.mem_range] at hx
    obtain ⟨i, -, rfl⟩ := hx
    exact absurd hlt (Nat.lt_irrefl _)) (Nat.le_refl _) (by omega)
  exact ⟨T6, some (.ref s.heap.size), _, _, _, X8, rfl, rfl, rfl, (fun h => by cases h), ⟨⟨rfl, B6, ba3.like (X3.warmed.alike.symm.trans X6.warmed.alike) p6.1 f6.1 f6.2.1 f6.2.2.1, f6.2.1.trans bv3, by rw [X6.warmed.alike.findClass, f6.1]; exact bf3, by rw [f6.2.2.1, bs3]; simp, fun j hj => by rw [f6.2.2.2 j, if_pos (by omega)]; rfl, kp3.put p6 (Nat.le_refl _)⟩, by rw [p6.2.2, bh3, hh0]; simp⟩, fun fs hl => c8.trans (X8.areturnOut hexec rfl hret rfl (hb hbytes d58) hl)⟩
end Cmp3
namespace CodL
def yN : MethodName := ⟨"java/lang/StringUTF16", "coderFromArrayLen", "([BI)B"⟩
abbrev yB : ByteArray := jdk_52_method_15_code
theorem d0 : decode yB 0 = .ok (.iload_n 1, 1) := by decide +kernel
theorem d1 : decode yB 1 = .ok (.aload_n 0, 1) := by decide +kernel
theorem d2 : decode yB 2 = .ok (.arraylength, 1) := by decide +kernel
theorem d3 : decode yB 3 = .ok (.isub, 1) := by decide +kernel
theorem d4 : decode yB 4 = .ok (.bipush 31, 2) := by decide +kernel
theorem d6 : decode yB 6 = .ok (.iushr, 1) := by decide +kernel
theorem d7 : decode yB 7 = .ok (.i2b, 1) := by decide +kernel
theorem d8 : decode yB 8 = .ok (.ireturn, 1) := by decide +kernel
def site : List Cond := []
def tab : Cond := tabOf yN yB 2 (some .byte) site
def P (d : Addr) (B : Cell) (args : Array Value) (s : State) : Prop := args = #[.ref d, .int (Int32.ofNat B.slots.size)] ∧ Arr .byte d B s
def E (r : Option Value) (s u : State) : Prop := XT.PureE (some (.int 0)) r s u
/-- an array as long as the number of chars: LATIN1 -/
theorem law (l : Launch) (d : Addr) (B : Cell) : Law l yN 2 2 0 0 yB 2 (some .byte) site (P d B) E [] 0 0 := by
  refine Law.of_walk (plainFor_of_name (by decide +kernel)) (by decide +kernel) (by decide +kernel) (by decide) (fun _ _ h => by rw [h.1]; rfl) (fun _ U U' hal hh h => ⟨h.1, h.2.mv hal hh⟩) (fun r U U' V V' h1 hal h2 h => XT.PureE.mv r U U' V V' h1 hal h2 h) ?_
  intro p e s m args below meth c s₁ X0 hexec hbytes hml hret hlk hnm hown hh0 W hP
  obtain ⟨rfl, hB⟩ := hP
  have hB0 := hB.mv X0.warmed.alike hh0
  have c1 : Steps p.tables e below (s₁.setTop (entryFrame m #[.ref d, .int (Int32.ofNat B.slots.size)] 2)) (s₁.setTop (mkF m 0 #[.val (.ref d), .val (.int (Int32.ofNat B.slots.size))] [])) := entry rfl
  have c2 : Steps p.tables e below (s₁.setTop (entryFrame m #[.ref d, .int (Int32.ofNat B.slots.size)] 2)) (s₁.setTop (mkF m 2 #[.val (.ref d), .val (.int (Int32.ofNat B.slots.size))] [.ref d, .int (Int32.ofNat B.slots.size)])) := c1.trans (by
    refine XS.iloadN X0.here hexec rfl (hb hbytes d0) rfl ?_
    refine XS.aloadN X0.here hexec rfl (hb hbytes d1) rfl rfl ?_
    exact Steps.refl _)
  have c3 : Steps p.tables e below (s₁.setTop (entryFrame m #[.ref d, .int (Int32.ofNat B.slots.size)] 2)) (s₁.setTop (mkF m 8 #[.val (.ref d), .val (.int (Int32.ofNat B.slots.size))] [.int (lo8 (ushr (Int32.ofNat B.slots.size - Int32.ofNat B.slots.size) 31))])) := c2.trans (by
    refine X0.alen hexec hB0 rfl rfl (hb hbytes d2) ?_
    refine XS.isub X0.here hexec rfl (hb hbytes d3) rfl ?_
    refine bipushV X0.here hexec rfl 31 (hb hbytes d4) (by decide) ?_
    refine iushr X0.here hexec rfl (hb hbytes d6) rfl ?_
    refine i2b X0.here hexec rfl (hb hbytes d7) rfl ?_
    exact Steps.refl _)
  have e0 : lo8 (ushr (Int32.ofNat B.slots.size - Int32.ofNat B.slots.size) 31) = 0 := by rw [Int32.sub_self]; decide
  rw [e0] at c3
  exact ⟨s₁, some (.int 0), _, _, _, X0, rfl, rfl, rfl, (fun h => by cases h), ⟨rfl, hh0⟩, fun fs hl => c3.trans (X0.ireturnOut hexec hret rfl (Or.inr (Or.inr (Or.inl rfl))) (hb hbytes d8) hl)⟩
end CodL
/-- the String at a is Latin-1 over a new byte[] (the heap's one new cell): the low bytes of the len chars of A from o on; every cell but a is kept -/
def Got (a : Addr) (D : Cell) (fV fC : Field) (A : Cell) (o len : Nat) (r : Option Value) (s u : State) : Prop := r = none ∧ ∃ D' V : Cell, Blank "java/lang/String" a D' u ∧ Same D D' [fV.slot, fC.slot] ∧ D'.slots[fV.slot]? = some (.ref s.heap.size) ∧ D'.slots[fC.slot]? = some (.int 0) ∧ Arr .byte s.heap.size V u ∧ V.vm = .none ∧ u.vm.findClass "[B" = some V.cls ∧ V.slots.size = len ∧ (∀ j, j < len → V.slots[j]? = some (.int (lo8 (cv A (o + j))))) ∧ (∀ (y : Addr) (c : Cell), y ≠ a → s.heap[y]? = some c → u.heap[y]? = some c) ∧ u.heap.size = s.heap.size + 1
theorem Got.mv {a : Addr} {D A : Cell} {fV fC : Field} {o len : Nat} : ∀ r (U U' V V' : State), U'.heap = U.heap → V.vm.Alike V'.vm → V'.heap = V.heap → Got a D fV fC A o len r U V → Got a D fV fC A o len r U' V' :=
  fun r U U' V V' h1 hal h2 ⟨e0, D', X, a1, a2, a3, a4, a5, a6, a7, a8, a9, a10, a11⟩ => ⟨e0, D', X, a1.mv hal h2, a2, by rw [h1]; exact a3, a4, by rw [h1]; exact a5.mv hal h2, a6, by rw [hal.findClass]; exact a7, a8, a9, by rw [h1, h2]; exact a10, by rw [h1, h2]; exact a11⟩
namespace New4
def yN : MethodName := ⟨"java/lang/String", "<init>", "([CIILjava/lang/Void;)V"⟩
abbrev yB : ByteArray := jdk_42_method_149_code
theorem d0 : decode yB 0 = .ok (.aload_n 0, 1) := by decide +kernel
theorem d1 : decode yB 1 = .ok (.invokespecial 1, 3) := by decide +kernel
theorem d4 : decode yB 4 = .ok (.iload_n 3, 1) := by decide +kernel
theorem d5 : decode yB 5 = .ok (.ifCond (.ne) 22, 3) := by decide +kernel
theorem d27 : decode yB 27 = .ok (.getstatic 38, 3) := by decide +kernel
theorem d30 : decode yB 30 = .ok (.ifCond (.eq) 28, 3) := by decide +kernel
theorem d33 : decode yB 33 = .ok (.aload_n 1, 1) := by decide +kernel
theorem d34 : decode yB 34 = .ok (.iload_n 2, 1) := by decide +kernel
theorem d35 : decode yB 35 = .ok (.iload_n 3, 1) := by decide +kernel
theorem d36 : decode yB 36 = .ok (.invokestatic 177, 3) := by decide +kernel
theorem d39 : decode yB 39 = .ok (.astore 5, 2) := by decide +kernel
theorem d41 : decode yB 41 = .ok (.aload_n 0, 1) := by decide +kernel
theorem d42 : decode yB 42 = .ok (.aload 5, 2) := by decide +kernel
theorem d44 : decode yB 44 = .ok (.iload_n 3, 1) := by decide +kernel
theorem d45 : decode yB 45 = .ok (.invokestatic 47, 3) := by decide +kernel
theorem d48 : decode yB 48 = .ok (.putfield 15, 3) := by decide +kernel
theorem d51 : decode yB 51 = .ok (.aload_n 0, 1) := by decide +kernel
theorem d52 : decode yB 52 = .ok (.aload 5, 2) := by decide +kernel
theorem d54 : decode yB 54 = .ok (.putfield 9, 3) := by decide +kernel
theorem d57 : decode yB 57 = .ok (.return_, 1) := by decide +kernel
def site : List Cond := [.fieldLink "java/lang/String" 38 "java/lang/String" "COMPACT_STRINGS" "Z", Cmp3.tab, CodL.tab, .laysFinal "java/lang/String" "java/lang/String" "value" "[B", .fieldLink "java/lang/String" 9 "java/lang/String" "value" "[B", .laysFinal "java/lang/String" "java/lang/String" "coder" "B", .fieldLink "java/lang/String" 15 "java/lang/String" "coder" "B"] ++ objW "java/lang/String" 1 ++ staticW "java/lang/String" 177 Cmp3.yN ++ staticW "java/lang/String" 47 CodL.yN
def tab : Cond := tabOf yN yB 6 none site
def P (a : Addr) (D : Cell) (fV fC : Field) (b : Addr) (A : Cell) (z : Int32) (o len : Nat) (args : Array Value) (s : State) : Prop := args = #[.ref a, .ref b, .int (Int32.ofNat o), .int (Int32.ofNat len), .null] ∧ Blank "java/lang/String" a D s ∧ Found "java/lang/String" "value" "[B" fV s ∧ Found "java/lang/String" "coder" "B" fC s ∧ Ch b A s ∧ StaticIs s "java/lang/String" "COMPACT_STRINGS" "Z" (.int z) ∧ ¬ z = 0 ∧ 0 < len ∧ o + len ≤ A.slots.size ∧ len ≤ 536870912 ∧ ∀ i, i < len → ¬ 255 < cv A (o + i)
def E (a : Addr) (D : Cell) (fV fC : Field) (A : Cell) (o len : Nat) (r : Option Value) (s u : State) : Prop := Got a D fV fC A o len r s u
/-- len > 0, no char of the range above 255: a Latin-1 String of their low bytes -/
theorem law (l : Launch) (a : Addr) (D : Cell) (fV fC : Field) (b : Addr) (A : Cell) (z : Int32) (o len : Nat) : Law l yN 5 4 2 35 yB 6 none site (P a D fV fC b A z o len) (E a D fV fC A o len) [⟨a, fC.slot⟩, ⟨a, fV.slot⟩] 1 len := by
  refine Law.of_walk (plainFor_of_name (by decide +kernel)) (by decide +kernel) (by decide +kernel) (by decide) (fun _ _ h => by rw [h.1]; rfl) (fun _ U U' hal hh h => ⟨h.1, h.2.1.mv hal hh, h.2.2.1.al hal, h.2.2.2.1.al hal, h.2.2.2.2.1.mv hal hh, h.2.2.2.2.2.1.there hal hh, h.2.2.2.2.2.2⟩) (fun r U U' V V' h1 hal h2 h => Got.mv r U U' V V' h1 hal h2 h) ?_
  intro p e s m args below meth c s₁ X0 hexec hbytes hml hret hlk hnm hown hh0 W hP
  obtain ⟨rfl, hB, f1, f2, hA, s1, hz, l0, l1, l2, hp⟩ := hP
  have a31 := hA.1.2.2.2
  have c1 : Steps p.tables e below (s₁.setTop (entryFrame m #[.ref a, .ref b, .int (Int32.ofNat o), .int (Int32.ofNat len), .null] 6)) (s₁.setTop (mkF m 0 #[.val (.ref a), .val (.ref b), .val (.int (Int32.ofNat o)), .val (.int (Int32.ofNat len)), .val .null, .unset] [])) := entry rfl
  have c2 : Steps p.tables e below (s₁.setTop (entryFrame m #[.ref a, .ref b, .int (Int32.ofNat o), .int (Int32.ofNat len), .null] 6)) (s₁.setTop (mkF m 1 #[.val (.ref a), .val (.ref b), .val (.int (Int32.ofNat o)), .val (.int (Int32.ofNat len)), .val .null, .unset] [.ref a])) := c1.trans (by
    refine XS.aloadN X0.here hexec rfl (hb hbytes d0) rfl rfl ?_
    exact Steps.refl _)
  obtain ⟨T3, X3, q3, st3⟩ := X0.oinit hexec hown (wks W (objW "java/lang/String" 1)) (g := (mkF m 1 #[.val (.ref a), .val (.ref b), .val (.int (Int32.ofNat o)), .val (.int (Int32.ofNat len)), .val .null, .unset] [.ref a])) rfl (by rw [hml]; rfl) (rest := []) rfl (hb hbytes d1) (W := 0) (by show 2 * 0 + 0 ≤ _; decide) (Nat.le_of_ble_eq_true rfl) (Nat.le_of_ble_eq_true rfl)
  have hh3 := q3.trans hh0
  have c4 : Steps p.tables e below (s₁.setTop (entryFrame m #[.ref a, .ref b, .int (Int32.ofNat o), .int (Int32.ofNat len), .null] 6)) (T3.setTop (mkF m 27 #[.val (.ref a), .val (.ref b), .val (.int (Int32.ofNat o)), .val (.int (Int32.ofNat len)), .val .null, .unset] [])) := (c2.trans (st3 _ (Steps.refl _))).trans (by
    refine XS.iloadN X3.here hexec rfl (hb hbytes d4) rfl ?_
    refine XS.ifYes X3.here hexec rfl (pc0 := 5) rfl (hb hbytes d5) rfl (i0_ne_t (nz32 (by omega) l0)) (by decide) rfl ?_
    exact Steps.refl _)
  obtain ⟨T5, X5, q5, st5⟩ := X3.sget hexec hown (wk W (.fieldLink "java/lang/String" 38 "java/lang/String" "COMPACT_STRINGS" "Z")) s1 (fun _ _ h => by rw [hh3]; exact h) (g := (mkF m 27 #[.val (.ref a), .val (.ref b), .val (.int (Int32.ofNat o)), .val (.int (Int32.ofNat len)), .val .null, .unset] [])) rfl (hb hbytes d27)
  have hh5 := q5.trans hh3
  have c6 : Steps p.tables e below (s₁.setTop (entryFrame m #[.ref a, .ref b, .int (Int32.ofNat o), .int (Int32.ofNat len), .null] 6)) (T5.setTop (mkF m 30 #[.val (.ref a), .val (.ref b), .val (.int (Int32.ofNat o)), .val (.int (Int32.ofNat len)), .val .null, .unset] [.int z])) := c4.trans (st5 _ (Steps.refl _))
  have c7 : Steps p.tables e below (s₁.setTop (entryFrame m #[.ref a, .ref b, .int (Int32.ofNat o), .int (Int32.ofNat len), .null] 6)) (T5.setTop (mkF m 36 #[.val (.ref a), .val (.ref b), .val (.int (Int32.ofNat o)), .val (.int (Int32.ofNat len)), .val .null, .unset] [.int (Int32.ofNat len), .int (Int32.ofNat o), .ref b])) := c6.trans (by
    refine XS.ifNo X5.here hexec rfl (hb hbytes d30) rfl (i0_eq_f hz) ?_
    refine XS.aloadN X5.here hexec rfl (hb hbytes d33) rfl rfl ?_
    refine XS.iloadN X5.here hexec rfl (hb hbytes d34) rfl ?_
    refine XS.iloadN X5.here hexec rfl (hb hbytes d35) rfl ?_
    exact Steps.refl _)
  obtain ⟨v8, T8, X8, E8, g8⟩ := X5.callS hexec (Cmp3.law l b A o len) hown (wks W (staticW "java/lang/String" 177 Cmp3.yN)) (wk W Cmp3.tab) (W := 0) (Nat.le_of_ble_eq_true rfl) (Nat.le_of_ble_eq_true rfl) (Nat.le_refl _) (by show 0 + len ≤ len; omega) (g := (mkF m 36 #[.val (.ref a), .val (.ref b), .val (.int (Int32.ofNat o)), .val (.int (Int32.ofNat len)), .val .null, .unset] [.int (Int32.ofNat len), .int (Int32.ofNat o), .ref b])) rfl (by rw [hml]; rfl) c7 (argsL := [.ref b, .int (Int32.ofNat o), .int (Int32.ofNat len)]) (rest := []) rfl rfl (by show 2 * 0 + 0 ≤ _; decide) (hb hbytes d36) (⟨rfl, hA.mv X5.warmed.alike hh5, l1, l2, hp⟩)
  obtain ⟨e8, z8⟩ := E8
  obtain ⟨rfl, N, n1, n2, n3, n4, n5, n6⟩ := NewArr.mv _ T5 s _ _ hh5.symm (Vm.Alike.refl _) rfl e8
  rw [hh5] at z8
  have hB1 := hB.keep X8.warmed.alike (n6 _ _ hB.1)
  have hne : s.heap.size ≠ a := (Nat.ne_of_lt (Array.getElem?_eq_some_iff.mp hB.1).1).symm
  have c9 : Steps p.tables e below (s₁.setTop (entryFrame m #[.ref a, .ref b, .int (Int32.ofNat o), .int (Int32.ofNat len), .null] 6)) (T8.setTop (mkF m 39 #[.val (.ref a), .val (.ref b), .val (.int (Int32.ofNat o)), .val (.int (Int32.ofNat len)), .val .null, .unset] [.ref s.heap.size])) := g8
  have c10 : Steps p.tables e below (s₁.setTop (entryFrame m #[.ref a, .ref b, .int (Int32.ofNat o), .int (Int32.ofNat len), .null] 6)) (T8.setTop (mkF m 45 #[.val (.ref a), .val (.ref b), .val (.int (Int32.ofNat o)), .val (.int (Int32.ofNat len)), .val .null, .val (.ref s.heap.size)] [.int (Int32.ofNat N.slots.size), .ref s.heap.size, .ref a])) := by
    have hc : Steps p.tables e below (s₁.setTop (entryFrame m #[.ref a, .ref b, .int (Int32.ofNat o), .int (Int32.ofNat len), .null] 6)) (T8.setTop (mkF m 45 #[.val (.ref a), .val (.ref b), .val (.int (Int32.ofNat o)), .val (.int (Int32.ofNat len)), .val .null, .val (.ref s.heap.size)] [.int (Int32.ofNat len), .ref s.heap.size, .ref a])) := c9.trans (by
      refine XS.astore X8.here hexec rfl (hb hbytes d39) rfl rfl rfl ?_
      refine XS.aloadN X8.here hexec rfl (hb hbytes d41) rfl rfl ?_
      refine XS.aload X8.here hexec rfl (hb hbytes d42) rfl rfl ?_
      refine XS.iloadN X8.here hexec rfl (hb hbytes d44) rfl ?_
      exact Steps.refl _)
    rw [n4]; exact hc
  obtain ⟨v11, T11, X11, E11, g11⟩ := X8.callS hexec (CodL.law l s.heap.size N) hown (wks W (staticW "java/lang/String" 47 CodL.yN)) (wk W CodL.tab) (W := 1) (Nat.le_of_ble_eq_true rfl) (Nat.le_of_ble_eq_true rfl) (Nat.le_refl _) (by show 0 + len + 0 ≤ len; omega) (g := (mkF m 45 #[.val (.ref a), .val (.ref b), .val (.int (Int32.ofNat o)), .val (.int (Int32.ofNat len)), .val .null, .val (.ref s.heap.size)] [.int (Int32.ofNat N.slots.size), .ref s.heap.size, .ref a])) rfl (by rw [hml]; rfl) c10 (argsL := [.ref s.heap.size, .int (Int32.ofNat N.slots.size)]) (rest := [.ref a]) rfl rfl (by show 2 * 0 + (1 + 0) ≤ _; decide) (hb hbytes d45) (⟨rfl, n1⟩)
  obtain ⟨rfl, q11⟩ := E11
  have hB11 := hB1.mv (X8.warmed.alike.symm.trans X11.warmed.alike) q11
  have c12 : Steps p.tables e below (s₁.setTop (entryFrame m #[.ref a, .ref b, .int (Int32.ofNat o), .int (Int32.ofNat len), .null] 6)) (T11.setTop (mkF m 48 #[.val (.ref a), .val (.ref b), .val (.int (Int32.ofNat o)), .val (.int (Int32.ofNat len)), .val .null, .val (.ref s.heap.size)] [.int 0, .ref a])) := g11
  obtain ⟨T13, X13, p13, bl13, sl13, st13⟩ := X11.finit hexec hown (wk W (.fieldLink "java/lang/String" 15 "java/lang/String" "coder" "B")) (Or.inr ⟨_, (wk W (.laysFinal "java/lang/String" "java/lang/String" "coder" "B"))⟩) (Or.inl ⟨rfl, hnm⟩) f2 (Or.inl rfl) hB11 (t := .byte) (by decide +kernel) rfl (g := (mkF m 48 #[.val (.ref a), .val (.ref b), .val (.int (Int32.ofNat o)), .val (.int (Int32.ofNat len)), .val .null, .val (.ref s.heap.size)] [.int 0, .ref a])) rfl (rest := []) rfl (hb hbytes d48)
  have c14 : Steps p.tables e below (s₁.setTop (entryFrame m #[.ref a, .ref b, .int (Int32.ofNat o), .int (Int32.ofNat len), .null] 6)) (T13.setTop (mkF m 54 #[.val (.ref a), .val (.ref b), .val (.int (Int32.ofNat o)), .val (.int (Int32.ofNat len)), .val .null, .val (.ref s.heap.size)] [.ref s.heap.size, .ref a])) := (c12.trans (st13 _ (Steps.refl _))).trans (by
    refine XS.aloadN X13.here hexec rfl (hb hbytes d51) rfl rfl ?_
    refine XS.aload X13.here hexec rfl (hb hbytes d52) rfl rfl ?_
    exact Steps.refl _)
  obtain ⟨T15, X15, p15, bl15, sl15, st15⟩ := X13.finit hexec hown (wk W (.fieldLink "java/lang/String" 9 "java/lang/String" "value" "[B")) (Or.inr ⟨_, (wk W (.laysFinal "java/lang/String" "java/lang/String" "value" "[B"))⟩) (Or.inl ⟨rfl, hnm⟩) f1 (Or.inl rfl) bl13 (t := (.array .byte)) (by decide +kernel) rfl (g := (mkF m 54 #[.val (.ref a), .val (.ref b), .val (.int (Int32.ofNat o)), .val (.int (Int32.ofNat len)), .val .null, .val (.ref s.heap.size)] [.ref s.heap.size, .ref a])) rfl (rest := []) rfl (hb hbytes d54)
  have c16 : Steps p.tables e below (s₁.setTop (entryFrame m #[.ref a, .ref b, .int (Int32.ofNat o), .int (Int32.ofNat len), .null] 6)) (T15.setTop (mkF m 57 #[.val (.ref a), .val (.ref b), .val (.int (Int32.ofNat o)), .val (.int (Int32.ofNat len)), .val .null, .val (.ref s.heap.size)] [])) := c14.trans (st15 _ (Steps.refl _))
  have ap := apart (Or.inr ⟨_, (wk W (.laysFinal "java/lang/String" "java/lang/String" "value" "[B"))⟩) (Or.inr ⟨_, (wk W (.laysFinal "java/lang/String" "java/lang/String" "coder" "B"))⟩) f1 f2 (t₁ := .array .byte) (t₂ := .byte) (by decide +kernel) (by decide +kernel) (by decide)
  have al := X8.warmed.alike.symm.trans X15.warmed.alike
  have n7 : T11.heap[s.heap.size]? = some N := by rw [q11]; exact n1.1
  exact ⟨T15, none, _, _, _, X15, by simp, rfl, by omega, (fun _ => rfl), ⟨rfl, _, N, bl15, ((Same.refl D _).set _ (by simp)).set _ (by simp), sl15, (Cell.slots_setSlot_ne _ ap).trans sl13, n1.keep al (p15.other hne (p13.other hne n7)), n2, by rw [al.findClass]; exact n3, n4, n5, fun y c h1 h2 => p15.other h1 (p13.other h1 (by rw [q11]; exact n6 y c h2)), by rw [p15.2.2, p13.2.2, q11]; exact z8⟩, fun fs hl => c16.trans (X15.returnOut hexec hret (hb hbytes d57) hl)⟩
end New4
namespace New1
def yN : MethodName := ⟨"java/lang/String", "<init>", "([C)V"⟩
abbrev yB : ByteArray := jdk_42_method_3_code
theorem d0 : decode yB 0 = .ok (.aload_n 0, 1) := by decide +kernel
theorem d1 : decode yB 1 = .ok (.aload_n 1, 1) := by decide +kernel
theorem d2 : decode yB 2 = .ok (.iconst 0, 1) := by decide +kernel
theorem d3 : decode yB 3 = .ok (.aload_n 1, 1) := by decide +kernel
theorem d4 : decode yB 4 = .ok (.arraylength, 1) := by decide +kernel
theorem d5 : decode yB 5 = .ok (.aconst_null, 1) := by decide +kernel
theorem d6 : decode yB 6 = .ok (.invokespecial 27, 3) := by decide +kernel
theorem d9 : decode yB 9 = .ok (.return_, 1) := by decide +kernel
def site : List Cond := [New4.tab] ++ initW "java/lang/String" 27 New4.yN
def tab : Cond := tabOf yN yB 2 none site
def P (a : Addr) (D : Cell) (fV fC : Field) (b : Addr) (A : Cell) (z : Int32) (args : Array Value) (s : State) : Prop := args = #[.ref a, .ref b] ∧ Blank "java/lang/String" a D s ∧ Found "java/lang/String" "value" "[B" fV s ∧ Found "java/lang/String" "coder" "B" fC s ∧ Ch b A s ∧ StaticIs s "java/lang/String" "COMPACT_STRINGS" "Z" (.int z) ∧ ¬ z = 0 ∧ 0 < A.slots.size ∧ A.slots.size ≤ 536870912 ∧ ∀ i, i < A.slots.size → ¬ 255 < cv A i
def E (a : Addr) (D : Cell) (fV fC : Field) (A : Cell) (r : Option Value) (s u : State) : Prop := Got a D fV fC A 0 A.slots.size r s u
/-- new String(chars), not empty, no char above 255: a Latin-1 String of their low bytes -/
theorem law (l : Launch) (a : Addr) (D : Cell) (fV fC : Field) (b : Addr) (A : Cell) (z : Int32) : Law l yN 2 1 3 52 yB 2 none site (P a D fV fC b A z) (E a D fV fC A) [⟨a, fC.slot⟩, ⟨a, fV.slot⟩] 1 A.slots.size := by
  refine Law.of_walk (plainFor_of_name (by decide +kernel)) (by decide +kernel) (by decide +kernel) (by decide) (fun _ _ h => by rw [h.1]; rfl) (fun _ U U' hal hh h => ⟨h.1, h.2.1.mv hal hh, h.2.2.1.al hal, h.2.2.2.1.al hal, h.2.2.2.2.1.mv hal hh, h.2.2.2.2.2.1.there hal hh, h.2.2.2.2.2.2⟩) (fun r U U' V V' h1 hal h2 h => Got.mv r U U' V V' h1 hal h2 h) ?_
  intro p e s m args below meth c s₁ X0 hexec hbytes hml hret hlk hnm hown hh0 W hP
  obtain ⟨rfl, hB, f1, f2, hA, s1, hz, l0, l2, hp⟩ := hP
  have c1 : Steps p.tables e below (s₁.setTop (entryFrame m #[.ref a, .ref b] 2)) (s₁.setTop (mkF m 0 #[.val (.ref a), .val (.ref b)] [])) := entry rfl
  have c2 : Steps p.tables e below (s₁.setTop (entryFrame m #[.ref a, .ref b] 2)) (s₁.setTop (mkF m 6 #[.val (.ref a), .val (.ref b)] [.null, .int (Int32.ofNat A.slots.size), .int 0, .ref b, .ref a])) := c1.trans (by
    refine XS.aloadN X0.here hexec rfl (hb hbytes d0) rfl rfl ?_
    refine XS.aloadN X0.here hexec rfl (hb hbytes d1) rfl rfl ?_
    refine iconstV X0.here hexec rfl 0 (hb hbytes d2) (by decide) ?_
    refine XS.aloadN X0.here hexec rfl (hb hbytes d3) rfl rfl ?_
    refine X0.alen hexec (hA.1.mv X0.warmed.alike hh0) rfl rfl (hb hbytes d4) ?_
    refine XS.aconstNull X0.here hexec rfl (hb hbytes d5) ?_
    exact Steps.refl _)
  obtain ⟨v3, T3, X3, E3, g3⟩ := X0.callN hexec (New4.law l a D fV fC b A z 0 A.slots.size) rfl hown (wks W (initW "java/lang/String" 27 New4.yN)) (W New4.tab (by simp only [site, List.mem_cons, List.mem_append, true_or, or_true])) (W := 0) (Nat.le_of_ble_eq_true rfl) (Nat.le_of_ble_eq_true rfl) (Nat.le_refl _) (by show 0 + A.slots.size ≤ A.slots.size; omega) (g := (mkF m 6 #[.val (.ref a), .val (.ref b)] [.null, .int (Int32.ofNat A.slots.size), .int (Int32.ofNat 0), .ref b, .ref a])) rfl (by rw [hml]; rfl) c2 (argsL := [.ref b, .int (Int32.ofNat 0), .int (Int32.ofNat A.slots.size), .null]) (rest := []) rfl rfl (by show 2 * 0 + 0 ≤ _; decide) (hb hbytes d6) (⟨rfl, hB.mv X0.warmed.alike hh0, f1.al X0.warmed.alike, f2.al X0.warmed.alike, hA.mv X0.warmed.alike hh0, s1.there X0.warmed.alike hh0, hz, l0, by omega, l2, fun i hi => by rw [Nat.zero_add]; exact hp i hi⟩)
  have e0 := Got.mv _ s₁ s _ _ hh0.symm (Vm.Alike.refl _) rfl E3
  obtain rfl := e0.1
  have c4 : Steps p.tables e below (s₁.setTop (entryFrame m #[.ref a, .ref b] 2)) (T3.setTop (mkF m 9 #[.val (.ref a), .val (.ref b)] [])) := g3
  exact ⟨T3, none, _, _, _, X3, by simp, rfl, by omega, (fun _ => rfl), e0, fun fs hl => c4.trans (X3.returnOut hexec hret (hb hbytes d9) hl)⟩
theorem pays {l : Launch} {R : Room} {p : Program} {e : Env} {below : List Frame} {s : State} {sargs : Array Value} {len W : Nat} (a : Addr) (D : Cell) (fV fC : Field) (b : Addr) (A : Cell) (z : Int32) (htab : tab.before sargs s = true) (hfr : 4 ≤ R.frames) (hlo : W + 65 ≤ R.locals) :
    Back l R p e below s sargs yN len W (fun A₁ a₁ => A₁.cells + 1 ≤ R.cells ∧ A₁.slots + A.slots.size ≤ R.slots ∧ P a D fV fC b A z a₁ A₁.U) (fun A₁ _ v₁ B₁ => E a D fV fC A v₁ A₁.U B₁.U ∧ B₁.locs = A₁.locs ++ [⟨a, fC.slot⟩, ⟨a, fV.slot⟩] ∧ B₁.cells = A₁.cells + 1 ∧ B₁.slots = A₁.slots + A.slots.size) :=
  (law l a D fV fC b A z).pays htab hfr (by omega)
end New1
/-- the byte, read back as charAt reads it, is the char -/
theorem lo8_mask {x : Int32} (h0 : ¬ x < 0) (h1 : ¬ 255 < x) : lo8 x &&& 255 = x := by
  have t : ∀ k : Fin 256, lo8 (Int32.ofNat k.val) &&& 255 = Int32.ofNat k.val := by decide +kernel
  rw [Int32.lt_iff_toInt_lt] at h0 h1
  have e0 : (0 : Int32).toInt = 0 := rfl
  have e1 : (255 : Int32).toInt = 255 := rfl
  obtain ⟨k, hk⟩ : ∃ k : Nat, x.toInt = k := ⟨x.toInt.toNat, by omega⟩
  have hx : x = Int32.ofNat k := Int32.toInt_inj.mp (by rw [hk, Int32.toInt_ofNat_small (by omega)])
  rw [hx]
  exact t ⟨k, by omega⟩
end StrChars
namespace StrChars.Road
open Jvm Sem ClassFile Op Lib Jvm.Stand Jvm.Free Jvm.Free.XT
open Jvm.Lib.Cold (StaticIs)
abbrev ST : String := "java/lang/String"
/-- every table word that New1's law asks, flat -/
abbrev words : List Jvm.Cond := [.code New1.yN New1.yB 2 none, .initialized ST, .methodLink ST 27 New4.yN, .instanceMethod New4.yN,
  .code New4.yN New4.yB 6 none, .fieldLink ST 38 ST "COMPACT_STRINGS" "Z", .laysFinal ST ST "value" "[B", .fieldLink ST 9 ST "value" "[B", .laysFinal ST ST "coder" "B", .fieldLink ST 15 ST "coder" "B",
  .methodLink ST 1 Lib.objectInit, .instanceMethod Lib.objectInit, .code Lib.objectInit ⟨#[0xb1]⟩ 1 none, .methodLink ST 177 Cmp3.yN, .static Cmp3.yN, .methodLink ST 47 CodL.yN, .static CodL.yN,
  .code Cmp3.yN Cmp3.yB 6 (some (.array .byte)), .initialized U16, .arrayClass .byte, .methodLink U16 115 Cmp5.yN, .static Cmp5.yN, .code Cmp5.yN Cmp5.yB 7 (some .int), .code CodL.yN CodL.yB 2 (some .byte)]
theorem tab_of {a : Array Value} {s : State} (h : ∀ w ∈ words, w.before a s = true) : New1.tab.before a s = true := by
  have h5 : Cmp5.tab.before a s = true := unparts (wk h (.code Cmp5.yN Cmp5.yB 7 (some .int))) (wks h (.initialized Cmp5.yN.cls :: Cmp5.site))
  have hc : CodL.tab.before a s = true := unparts (wk h (.code CodL.yN CodL.yB 2 (some .byte))) (wks h (.initialized CodL.yN.cls :: CodL.site))
  have q5 : ∀ w ∈ Cmp5.tab :: words, w.before a s = true := fun w hw => (List.mem_cons.mp hw).elim (fun e => e ▸ h5) (h w)
  have h3 : Cmp3.tab.before a s = true := unparts (wk q5 (.code Cmp3.yN Cmp3.yB 6 (some (.array .byte)))) (wks q5 (.initialized Cmp3.yN.cls :: Cmp3.site))
  have q3 : ∀ w ∈ Cmp3.tab :: CodL.tab :: words, w.before a s = true := fun w hw => (List.mem_cons.mp hw).elim (fun e => e ▸ h3) fun hw => (List.mem_cons.mp hw).elim (fun e => e ▸ hc) (h w)
  have h4 : New4.tab.before a s = true := unparts (wk q3 (.code New4.yN New4.yB 6 none)) (wks q3 (.initialized New4.yN.cls :: New4.site))
  have q4 : ∀ w ∈ New4.tab :: words, w.before a s = true := fun w hw => (List.mem_cons.mp hw).elim (fun e => e ▸ h4) (h w)
  exact unparts (wk q4 (.code New1.yN New1.yB 2 none)) (wks q4 (.initialized New1.yN.cls :: New1.site))
/-- the words ride from the start Z to the walk's own state -/
theorem moved {Z s : State} {a0 args : Array Value} (hZ : Z.Warmed39 s.vm) (hw : ∀ d ∈ words, d.before a0 Z = true) : ∀ d ∈ words, d.before args s = true := fun d hd => by
  have q := hw d hd
  have t : ∀ d ∈ words, d = .arrayClass .byte ∨ (d.onTables && d.keepsFace) = true := by decide +kernel
  rcases t d hd with rfl | t
  · exact RoadKit.mvA hZ q
  · exact RoadKit.mv hZ q t
/-- WHAT COMES BACK, over the tables of the start Z: h the heap at the call, h' behind it -/
def Q (Z : State) (x : Addr) (A : Cell) (h : Heap) (v : Option Value) (h' : Heap) (L : List Loc) : Prop := v = none ∧ (∀ y ∈ L, y.base = x) ∧ RoadKit.Keep h h' [x] ∧ h'.size = h.size + 1 ∧ RoadKit.Exa Z h' x ST ∧ RoadKit.Fld Z h' x ST "value" "[B" (.ref h.size) ∧ RoadKit.Fld Z h' x ST "coder" "B" (.int 0) ∧
  (∃ V : Cell, RoadKit.Arr Z h' h.size V .byte ∧ V.vm = .none ∧ Z.vm.findClass "[B" = some V.cls ∧ V.slots.size = A.slots.size ∧ ∀ j, j < A.slots.size → V.slots[j]? = some (.int (lo8 (cv A j)))) ∧
  ∀ (O n d : String) (w : Value), RoadKit.Fld Z h x O n d w → RoadKit.slotOf Z O n d ≠ RoadKit.slotOf Z ST "value" "[B" → RoadKit.slotOf Z O n d ≠ RoadKit.slotOf Z ST "coder" "B" → RoadKit.Fld Z h' x O n d w
/-- **new String(chars) AT A CALL, IN THE ROAD'S FORM**: for specialBack behind newO: x the fresh String, b the char[] with the cell A -/
theorem back {p : Program} {l : Launch} {e : Env} {R : Room} {s : State} {args : Array Value} {below : List Frame} {len W : Nat} {Z : State} {a0 : Array Value} {h : Heap} (hZ : Z.Warmed39 s.vm) (hw : ∀ d ∈ words, d.before a0 Z = true) {kI : Nat} (wi : (Jvm.Cond.instantiable ST kI).before a0 Z = true)
    {x b : Addr} {A : Cell} {z : Int32} {v0 c0 : Value} (E : RoadKit.Exa Z h x ST) (V : RoadKit.Fld Z h x ST "value" "[B" v0) (C : RoadKit.Fld Z h x ST "coder" "B" c0) (K : RoadKit.Arr Z h b A .char) (hty : Typed .char A) (S : RoadKit.Sta Z h ST "COMPACT_STRINGS" "Z" (.int z)) (hz : ¬ z = 0)
    (l0 : 0 < A.slots.size) (l2 : A.slots.size ≤ 536870912) (hp : ∀ i, i < A.slots.size → ¬ 255 < cv A i) (hfr : 4 ≤ R.frames) (hlo : W + 65 ≤ R.locals) :
    Back l R p e below s args New1.yN len W (fun P a => a = #[.ref x, .ref b] ∧ P.U.heap = h ∧ P.cells + 1 ≤ R.cells ∧ P.slots + A.slots.size ≤ R.slots)
      (fun P _ v B => ∃ L, Q Z x A h v B.U.heap L ∧ B.locs = P.locs ++ L ∧ B.cells = P.cells + 1 ∧ B.slots = P.slots + A.slots.size) := by
  intro m meth c P g ig mk a X hg hsize hdg hW hn hp'
  obtain ⟨rfl, rfl, r1, r2⟩ := hp'
  have al : Z.vm.Alike P.U.vm := hZ.alike.trans X.warmed.alike
  obtain ⟨D, cfV, kV, iV, fV, hD, gV, stV, knV, obV, asV, slV⟩ := id V
  obtain ⟨D', cfC, kC, iC, fC, hD', gC, stC, -, -, asC, slC⟩ := id C
  cases hD.symm.trans hD'
  obtain ⟨D2, kD, e1, e2, e3, e4, e5⟩ := id E
  cases hD.symm.trans e1
  obtain ⟨c2, k2, i1, i2, i3, -⟩ := Cond.instantiable_spec wi
  cases e2.symm.trans i1
  cases e3.symm.trans i2
  obtain ⟨kU, u1, u2⟩ := al.2.2 _ _ e3
  have hB : Blank ST x D P.U := ⟨hD, ⟨knV, fun q hq => by rw [hq] at obV; cases obV⟩, by rw [al.findClass]; exact e2, kU, u1, by rw [u2]; exact i3, by rw [u2]; exact e5 i3⟩
  have F1 : Found ST "value" "[B" fV P.U := ⟨SBG.found_only al ⟨cfV, kV, iV, gV⟩, stV⟩
  have F2 : Found ST "coder" "B" fC P.U := ⟨SBG.found_only al ⟨cfC, kC, iC, gC⟩, stC⟩
  have hA : Ch b A P.U := ⟨⟨K.1, State.isArrayOf_alike al K.2.1, K.2.2, by omega⟩, hty⟩
  have hS : StaticIs P.U ST "COMPACT_STRINGS" "Z" (.int z) := by
    obtain ⟨cfS, iS, kS, fS, st, cS, t1, t2, t3, t4, t5, t6, t7⟩ := S
    exact StaticIs.there (s := { Z with heap := P.U.heap }) ⟨cfS, iS, kS, fS, st, cS, t1, t2, t3, t4, t5, (fun q => by rw [q] at t6; cases t6), t7⟩ al rfl
  obtain ⟨v, B, X', ⟨⟨hv, E', V', q1, q2, q3, q4, q5, q6, q7, q8, q9, q10, q11⟩, hl, hc, hs⟩, st⟩ := New1.pays x D fV fC b A z (tab_of (moved hZ hw)) hfr hlo m meth c P g ig mk _ X hg hsize hdg hW hn ⟨r1, r2, rfl, hB, F1, F2, hA, hS, hz, l0, l2, hp⟩
  have al' : Z.vm.Alike B.U.vm := hZ.alike.trans X'.warmed.alike
  have hsz : E'.slots.size = D.slots.size := by
    obtain ⟨-, -, -, kB, w1, w2, w3⟩ := q1
    obtain ⟨kB', y1, y2⟩ := al'.2.2 _ _ e3
    rw [q2.2.1] at w1
    cases w1.symm.trans y1
    rw [w3, e5 i3, y2]
  refine ⟨v, B, X', ⟨_, ⟨hv, ?_, ⟨by omega, fun y cy hy hn' => q10 y cy (by simpa using hn') hy, fun y cy hy => ?_⟩, q11, ⟨E', _, q1.1, by rw [q2.2.1]; exact e2, by rw [q2.2.1]; exact e3, by rw [q2.1]; exact obV, fun _ => by rw [hsz]; exact e5 i3⟩,
    ⟨E', cfV, kV, iV, fV, q1.1, gV, stV, by rw [q2.1]; exact knV, by rw [q2.1]; exact obV, by rw [q2.2.1]; exact asV, q3⟩, ⟨E', cfC, kC, iC, fC, q1.1, gC, stC, by rw [q2.1]; exact knV, by rw [q2.1]; exact obV, by rw [q2.2.1]; exact asC, q4⟩,
    ⟨V', ⟨q5.1, State.isArrayOf_alike al'.symm q5.2.1, q5.2.2.1⟩, q6, by rw [← al'.findClass]; exact q7, q8, fun j hj => by have := q9 j hj; rwa [Nat.zero_add] at this⟩, fun O n d w F n1 n2 => ?_⟩, hl, hc, hs⟩, st⟩
  · intro y hy
    simp only [List.mem_cons, List.not_mem_nil, or_false] at hy
    rcases hy with rfl | rfl <;> rfl
  · by_cases q : y = x
    · subst q
      cases hD.symm.trans hy
      exact ⟨E', q1.1, q2.2.1, q2.1, hsz⟩
    · exact ⟨cy, q10 y cy q hy, rfl, rfl, rfl⟩
  · obtain ⟨D3, cf, k, i, f, g1, g2, g3, g4, g5, g6, g7⟩ := F
    cases hD.symm.trans g1
    simp only [RoadKit.slotOf, g2, gV, gC, Option.map_some, Option.getD_some] at n1 n2
    exact ⟨E', cf, k, i, f, q1.1, g2, g3, by rw [q2.1]; exact g4, by rw [q2.1]; exact g5, by rw [q2.2.1]; exact g6, by rw [q2.2.2 f.slot (by simp [n1, n2])]; exact g7⟩
end StrChars.Road
namespace StrChars.Road
open Jvm Sem ClassFile Op Lib Jvm.Stand Jvm.Free Jvm.Free.XT
/-- WHAT COMES BACK, the byte[] as a list of values -/
def QA (Z : State) (x : Addr) (zn : Int32) (cs : List Int32) (h : Heap) (v : Option Value) (h' : Heap) (L : List Loc) : Prop := v = none ∧ (∀ y ∈ L, y.base = x) ∧ RoadKit.Keep h h' [x] ∧ h'.size = h.size + 1 ∧ RoadKit.Exa Z h' x ST ∧ RoadKit.Fld Z h' x ST "value" "[B" (.ref h.size) ∧ RoadKit.Fld Z h' x ST "coder" "B" (.int 0) ∧
  (∃ kb, Z.vm.findClass "[B" = some kb ∧ RoadKit.Arv Z h' h.size kb .byte zn (cs.map fun c => .int (lo8 c)) (.int 0)) ∧
  ∀ (O n d : String) (w : Value), RoadKit.Fld Z h x O n d w → RoadKit.slotOf Z O n d ≠ RoadKit.slotOf Z ST "value" "[B" → RoadKit.slotOf Z O n d ≠ RoadKit.slotOf Z ST "coder" "B" → RoadKit.Fld Z h' x O n d w
/-- **new String(chars) AT A CALL, THE ARRAYS AS LISTS**: the char[] at b holds cs, not empty, no char above 255 -/
theorem backArv {p : Program} {l : Launch} {e : Env} {R : Room} {s : State} {args : Array Value} {below : List Frame} {len W : Nat} {Z : State} {a0 : Array Value} {h : Heap} (hZ : Z.Warmed39 s.vm) (hw : ∀ d ∈ words, d.before a0 Z = true) {kI : Nat} (wi : (Jvm.Cond.instantiable ST kI).before a0 Z = true)
    {x b : Addr} {k : ClassId} {zn z : Int32} {cs : List Int32} {dv v0 c0 : Value} (E : RoadKit.Exa Z h x ST) (V : RoadKit.Fld Z h x ST "value" "[B" v0) (C : RoadKit.Fld Z h x ST "coder" "B" c0) (K : RoadKit.Arv Z h b k .char zn (cs.map Value.int) dv) (S : RoadKit.Sta Z h ST "COMPACT_STRINGS" "Z" (.int z)) (hz : ¬ z = 0)
    (hlen : zn.toNatClampNeg = cs.length) (h0 : 0 < cs.length) (hbig : cs.length ≤ 536870912) (hall : ∀ c ∈ cs, ¬ 255 < c) (hfr : 4 ≤ R.frames) (hlo : W + 65 ≤ R.locals) :
    Back l R p e below s args New1.yN len W (fun P a => a = #[.ref x, .ref b] ∧ P.U.heap = h ∧ P.cells + 1 ≤ R.cells ∧ P.slots + cs.length ≤ R.slots)
      (fun P _ v B => ∃ L, QA Z x zn cs h v B.U.heap L ∧ B.locs = P.locs ++ L ∧ B.cells = P.cells + 1 ∧ B.slots = P.slots + cs.length) := by
  obtain ⟨A, K1, K2, K3, K4, K5, K6⟩ := K
  have e : A.slots.size = cs.length := K3.trans hlen
  have hat : ∀ (i : Nat) (hi : i < cs.length), A.slots[i]? = some (.int cs[i]) := fun i hi => by rw [K5 i (by omega)]; simp [List.getD_eq_getElem?_getD, hi]
  have hcv : ∀ (i : Nat) (hi : i < cs.length), cv A i = cs[i] := fun i hi => by unfold cv; rw [hat i hi]
  have hty : Typed .char A := fun i v hv => by
    have hi : i < A.slots.size := (Array.getElem?_eq_some_iff.mp hv).1
    have q := K5 i hi
    rw [hv] at q
    rw [Option.some.inj q]
    exact K6 i hi
  refine Back.mono (back hZ hw wi E V C K1 hty S hz (by omega) (by omega) (fun i hi => by rw [hcv i (by omega)]; exact hall _ (List.getElem_mem _)) hfr hlo) (fun P a hp => ⟨hp.1, hp.2.1, hp.2.2.1, by rw [e]; exact hp.2.2.2⟩) (fun P a v B hp hq => ?_)
  obtain ⟨L, ⟨q1, q2, q3, q4, q5, q6, q7, ⟨V', v1, v2, v3, v4, v5⟩, q9⟩, hl, hc, hs⟩ := hq
  refine ⟨L, ⟨q1, q2, q3, q4, q5, q6, q7, ⟨V'.cls, v3, V', v1, rfl, by rw [v4, e, hlen], K4, fun i hi => ?_, fun i hi => ?_⟩, q9⟩, hl, hc, by rw [hs, e]⟩
  · have hi' : i < cs.length := by omega
    rw [v5 i (by omega), hcv i hi']; simp [List.getD_eq_getElem?_getD, hi']
  · have hi' : i < cs.length := by omega
    simp only [List.getD_eq_getElem?_getD, List.getElem?_map, List.getElem?_eq_getElem hi', Option.map_some, Option.getD_some]
    exact fits_lo8 _
end StrChars.Road
namespace StrChars.Road
open Jvm Sem ClassFile Op Lib Jvm.Stand Jvm.Free Jvm.Free.XT
/-- WHAT COMES BACK, in the writer's own shape -/
def QV (Z : State) (x : Addr) (N : Int32) (bs : List Int32) (h : Heap) (n0 : Nat) (v : Option Value) (h' : Heap) (L : List Loc) : Prop := v = none ∧ RoadKit.Fr n0 L ∧ RoadKit.Keep h h' [x] ∧ RoadKit.Exa Z h' x ST ∧ RoadKit.Fld Z h' x ST "coder" "B" (.int 0) ∧
  ∃ (t : Addr) (kb : ClassId), n0 ≤ t ∧ h.size ≤ t ∧ ¬ t = x ∧ RoadKit.Fld Z h' x ST "value" "[B" (.ref t) ∧ RoadKit.Arv Z h' t kb .byte N (bs.map Value.int) (.int 0)
/-- **new String(chars) AT A CALL, FOR THE WRITER**: a char[] of n known ints, each 0 to 255 -/
theorem backV {p : Program} {l : Launch} {e : Env} {R : Room} {s : State} {args : Array Value} {below : List Frame} {len W : Nat} {Z : State} {a0 : Array Value} {h : Heap} (hZ : Z.Warmed39 s.vm) (hw : ∀ d ∈ words, d.before a0 Z = true) {kI : Nat} (wi : (Jvm.Cond.instantiable ST kI).before a0 Z = true)
    {x b : Addr} {kC : ClassId} {cs bs : List Int32} {d v0 c0 : Value} {z N : Int32} {n n0 : Nat} (hx0 : n0 ≤ x) (hh0 : n0 ≤ h.size) (E : RoadKit.Exa Z h x ST) (V : RoadKit.Fld Z h x ST "value" "[B" v0) (C : RoadKit.Fld Z h x ST "coder" "B" c0) (K : RoadKit.Arv Z h b kC .char N (cs.map Value.int) d) (S : RoadKit.Sta Z h ST "COMPACT_STRINGS" "Z" (.int z)) (hz : ¬ z = 0)
    (hn : cs.length = n) (hN : N = Int32.ofNat n) (l0 : 0 < n) (l2 : n ≤ 4000) (hp : ∀ c ∈ cs, ¬ c < 0 ∧ ¬ (255 : Int32) < c) (hb : bs = cs.map (fun c => c.toInt8.toInt32)) (hfr : 4 ≤ R.frames) (hlo : W + 65 ≤ R.locals) :
    Back l R p e below s args (⟨"java/lang/String", "<init>", "([C)V"⟩ : MethodName) len W (fun P a => a = #[.ref x, .ref b] ∧ P.U.heap = h ∧ P.cells + 1 ≤ R.cells ∧ P.slots + n ≤ R.slots)
      (fun P _ v B => ∃ L, QV Z x N bs h n0 v B.U.heap L ∧ B.locs = P.locs ++ L ∧ B.cells = P.cells + 1 ∧ B.slots = P.slots + n) := by
  subst hn hN hb
  refine Back.mono (backArv hZ hw wi E V C K S hz (n32 (by omega)) l0 (by omega) (fun c hc => (hp c hc).2) hfr hlo) (fun P a hp => hp) (fun P a v B hp hq => ?_)
  obtain ⟨L, ⟨q1, q2, q3, q4, q5, q6, q7, ⟨kb, v1, v2⟩, q9⟩, hl, hc, hs⟩ := hq
  exact ⟨L, ⟨q1, fun y hy => by rw [q2 y hy]; exact hx0, q3, q5, q7, h.size, kb, hh0, Nat.le_refl _, Nat.ne_of_gt E.lt, q6, by rw [List.map_map]; exact v2⟩, hl, hc, hs⟩
end StrChars.Road
namespace StrChars
open Jvm Sem ClassFile Op Lib Jvm.Stand Jvm.Free.XT Jvm.Free.ALB Jvm.Free.JM Jvm.Free
open Jvm.Lib.Cold (StaticIs)
def hi8 (x : Int32) : Int32 := lo8 (x >>> ((8 : Int32) &&& 31))
/-- what StringUTF16.getChar makes of two bytes -/
def pairCh (u v : Int32) : Int32 := (((u &&& 255) <<< ((0 : Int32) &&& 31)) ||| ((v &&& 255) <<< ((8 : Int32) &&& 31))).toUInt32.toUInt16.toUInt32.toInt32
theorem shr0 (c : Int32) : c >>> ((0 : Int32) &&& 31) = c := by
  have e : ((0 : Int32) &&& 31) = 0 := by decide
  rw [e]
  apply Int32.toBitVec_inj.mp
  rw [Int32.toBitVec_shiftRight]
  have e1 : ((0 : Int32).toBitVec.smod 32) = 0#32 := by decide
  rw [e1, BitVec.sshiftRight_eq']
  exact BitVec.sshiftRight_zero
theorem lo8_and (x : Int32) : (lo8 x &&& 255).toBitVec.toNat = x.toBitVec.toNat % 256 := by
  have h : (lo8 x).toBitVec = (x.toBitVec.signExtend 8).signExtend 32 := by rw [lo8, Int8.toBitVec_toInt32, Int32.toBitVec_toInt8]
  rw [Int32.toBitVec_and, BitVec.toNat_and, h]
  have e : ((x.toBitVec.signExtend 8).signExtend 32).toNat % 256 = x.toBitVec.toNat % 256 := by
    rw [BitVec.toNat_signExtend]
    have hlt := x.toBitVec.isLt
    simp only [BitVec.toNat_setWidth, BitVec.toNat_signExtend]
    split <;> split <;> omega
  rw [← e]
  exact Nat.and_two_pow_sub_one_eq_mod _ 8
theorem pair_says {c : Int32} (h0 : ¬ c < 0) (h1 : ¬ 65535 < c) : pairCh (lo8 c) (hi8 c) = c := by
  rw [Int32.lt_iff_toInt_lt] at h0 h1
  have e0 : (0 : Int32).toInt = 0 := rfl
  have e1 : (65535 : Int32).toInt = 65535 := rfl
  have hc : c.toInt = c.toBitVec.toNat := by
    have := c.toBitVec.isLt
    have e : c.toInt = c.toBitVec.toInt := rfl
    rw [e] at h0 h1
    rw [e]
    rw [BitVec.toInt_eq_toNat_cond] at h0 h1 ⊢
    split at h0 <;> split <;> omega
  have hn : c.toBitVec.toNat < 65536 := by omega
  have a1 := lo8_and c
  have a2 : (hi8 c &&& 255).toBitVec.toNat = c.toBitVec.toNat / 256 := by
    rw [hi8, lo8_and]
    have e : ((8 : Int32) &&& 31) = 8 := by decide
    rw [e, Int32.toBitVec_shiftRight]
    have e2 : ((8 : Int32).toBitVec.smod 32) = 8#32 := by decide
    rw [e2, BitVec.sshiftRight_eq', BitVec.toNat_sshiftRight_of_msb_false (by rw [BitVec.msb_eq_false_iff_two_mul_lt]; omega)]
    show c.toBitVec.toNat >>> 8 % 256 = _
    rw [Nat.shiftRight_eq_div_pow]
    omega
  unfold pairCh
  apply Int32.toBitVec_inj.mp
  apply BitVec.eq_of_toNat_eq
  have f0 : ((0 : Int32) &&& 31) = 0 := by decide
  have f8 : ((8 : Int32) &&& 31) = 8 := by decide
  rw [f0, f8]
  have g : (((lo8 c &&& 255) <<< (0 : Int32)) ||| ((hi8 c &&& 255) <<< (8 : Int32))).toBitVec.toNat = c.toBitVec.toNat := by
    rw [Int32.toBitVec_or, Int32.toBitVec_shiftLeft, Int32.toBitVec_shiftLeft]
    have s0 : ((0 : Int32).toBitVec.smod 32) = 0#32 := by decide
    have s8 : ((8 : Int32).toBitVec.smod 32) = 8#32 := by decide
    rw [s0, s8, BitVec.toNat_or]
    simp only [BitVec.shiftLeft_eq', BitVec.toNat_shiftLeft, a1, a2]
    show (c.toBitVec.toNat % 256) <<< 0 % 2 ^ 32 ||| (c.toBitVec.toNat / 256) <<< 8 % 2 ^ 32 = _
    rw [Nat.shiftLeft_zero, Nat.mod_eq_of_lt (show c.toBitVec.toNat % 256 < 2 ^ 32 by omega), Nat.mod_eq_of_lt (show (c.toBitVec.toNat / 256) <<< 8 < 2 ^ 32 by rw [Nat.shiftLeft_eq]; omega), Nat.or_comm, ← Nat.shiftLeft_add_eq_or_of_lt (by omega), Nat.shiftLeft_eq]
    omega
  show BitVec.toNat (((((lo8 c &&& 255) <<< (0 : Int32)) ||| ((hi8 c &&& 255) <<< (8 : Int32))).toBitVec.setWidth 16).setWidth 32) = _
  rw [BitVec.toNat_setWidth, BitVec.toNat_setWidth, g]
  omega
end StrChars
namespace StrChars
open Jvm Sem ClassFile Op Lib Jvm.Stand Jvm.Free.XT Jvm.Free.ALB Jvm.Free.JM Jvm.Free
open Jvm.Lib.Cold (StaticIs)
theorem shr1 {n : Nat} (h : 2 * n < 2 ^ 31) : Int32.ofNat (2 * n) >>> ((1 : Int32) &&& 31) = Int32.ofNat n := by
  have e : ((1 : Int32) &&& 31) = 1 := by decide
  rw [e]
  apply Int32.toBitVec_inj.mp
  rw [Int32.toBitVec_shiftRight]
  have e1 : ((1 : Int32).toBitVec.smod 32) = 1#32 := by decide
  have hm : (BitVec.ofNat 32 (2 * n)).toNat = 2 * n := by rw [BitVec.toNat_ofNat, Nat.mod_eq_of_lt (by omega)]
  rw [e1, BitVec.sshiftRight_eq']
  apply BitVec.eq_of_toNat_eq
  show ((BitVec.ofNat 32 (2 * n)).sshiftRight 1).toNat = (BitVec.ofNat 32 n).toNat
  rw [BitVec.toNat_sshiftRight_of_msb_false (by rw [BitVec.msb_eq_false_iff_two_mul_lt, hm]; omega), hm, BitVec.toNat_ofNat, Nat.shiftRight_eq_div_pow]
  omega
/-- charAt's cast of a byte read back -/
def chr8 (u : Int32) : Int32 := (u &&& 255).toUInt32.toUInt16.toUInt32.toInt32
theorem chr8_lo8 {c : Int32} (h0 : ¬ c < 0) (h1 : ¬ 255 < c) : chr8 (lo8 c) = c := by
  have t : ∀ k : Fin 256, (Int32.ofNat k.val).toUInt32.toUInt16.toUInt32.toInt32 = Int32.ofNat k.val := by decide +kernel
  unfold chr8
  rw [lo8_mask h0 h1]
  rw [Int32.lt_iff_toInt_lt] at h0 h1
  have e0 : (0 : Int32).toInt = 0 := rfl
  have e1 : (255 : Int32).toInt = 255 := rfl
  obtain ⟨k, hk⟩ : ∃ k : Nat, c.toInt = k := ⟨c.toInt.toNat, by omega⟩
  have hx : c = Int32.ofNat k := Int32.toInt_inj.mp (by rw [hk, Int32.toInt_ofNat_small (by omega)])
  rw [hx]
  exact t ⟨k, by omega⟩
theorem narrow_ch {c : Int32} (h0 : ¬ c < 0) (h1 : ¬ 65535 < c) : narrow .char (.int c) = .int c := by
  have q : narrow .char (.int (pairCh (lo8 c) (hi8 c))) = .int (pairCh (lo8 c) (hi8 c)) := narrow_c _
  rwa [pair_says h0 h1] at q
/-- the array's cell V codes the n chars f 0 .. f (n - 1) by the coder cd, as the JDK does: coder 1 just where some char is above 255 -/
def Cod (cd : Int32) (n : Nat) (f : Nat → Int32) (V : Cell) : Prop := (cd = 0 ∧ V.slots.size = n ∧ ∀ j, j < n → V.slots[j]? = some (.int (lo8 (f j))) ∧ ¬ 255 < f j) ∨ (cd = 1 ∧ V.slots.size = 2 * n ∧ (∀ j, j < n → V.slots[2 * j]? = some (.int (lo8 (f j))) ∧ V.slots[2 * j + 1]? = some (.int (hi8 (f j)))) ∧ ∃ j, j < n ∧ 255 < f j)
theorem Cod.cd {cd : Int32} {n : Nat} {f : Nat → Int32} {V : Cell} (h : Cod cd n f V) : cd = 0 ∨ cd = 1 := h.imp (fun q => q.1) fun q => q.1
theorem Cod.len {cd : Int32} {n : Nat} {f : Nat → Int32} {V : Cell} (h : Cod cd n f V) (hs : V.slots.size < 2 ^ 31) : Int32.ofNat V.slots.size >>> (cd &&& 31) = Int32.ofNat n := by
  rcases h with ⟨rfl, h, -⟩ | ⟨rfl, h, -⟩
  · rw [shr0, h]
  · rw [h, shr1 (by omega)]
/-- **x is a String of the n chars f 0 .. f (n - 1)**, Latin-1 or UTF-16; its array at t has the cell V -/
def Txt (x t : Addr) (V : Cell) (cd : Int32) (n : Nat) (f : Nat → Int32) (U : State) : Prop := Exact "java/lang/String" x U ∧ Has x "java/lang/String" "value" "[B" (.ref t) U ∧ Has x "java/lang/String" "coder" "B" (.int cd) U ∧ XT.Arr .byte t V U ∧ Cod cd n f V ∧ ∀ j, j < n → ¬ f j < 0 ∧ ¬ 65535 < f j
theorem Txt.mv {x t : Addr} {V : Cell} {cd : Int32} {n : Nat} {f : Nat → Int32} {U U' : State} (h : Txt x t V cd n f U) (hal : U.vm.Alike U'.vm) (hh : U'.heap = U.heap) : Txt x t V cd n f U' := ⟨h.1.mv hal hh, h.2.1.mv hal hh, h.2.2.1.mv hal hh, h.2.2.2.1.mv hal hh, h.2.2.2.2⟩
namespace Cdr
def yN : MethodName := ⟨"java/lang/String", "coder", "()B"⟩
abbrev yB : ByteArray := jdk_42_method_152_code
theorem d0 : decode yB 0 = .ok (.getstatic 38, 3) := by decide +kernel
theorem d3 : decode yB 3 = .ok (.ifCond (.eq) 10, 3) := by decide +kernel
theorem d6 : decode yB 6 = .ok (.aload_n 0, 1) := by decide +kernel
theorem d7 : decode yB 7 = .ok (.getfield 15, 3) := by decide +kernel
theorem d10 : decode yB 10 = .ok (.goto 4, 3) := by decide +kernel
theorem d14 : decode yB 14 = .ok (.ireturn, 1) := by decide +kernel
def site : List Cond := [.fieldLink "java/lang/String" 38 "java/lang/String" "COMPACT_STRINGS" "Z", .fieldLink "java/lang/String" 15 "java/lang/String" "coder" "B"]
def tab : Cond := tabOf yN yB 1 (some .byte) site
def P (x : Addr) (cd z : Int32) (args : Array Value) (s : State) : Prop := args = #[.ref x] ∧ Has x "java/lang/String" "coder" "B" (.int cd) s ∧ (cd = 0 ∨ cd = 1) ∧ StaticIs s "java/lang/String" "COMPACT_STRINGS" "Z" (.int z) ∧ ¬ z = 0
def E (cd : Int32) (r : Option Value) (s u : State) : Prop := XT.PureE (some (.int cd)) r s u
theorem law (l : Launch) (x : Addr) (cd z : Int32) : Law l yN 1 0 0 0 yB 1 (some .byte) site (P x cd z) (E cd) [] 0 0 := by
  refine Law.of_walk (plainFor_of_name (by decide +kernel)) (by decide +kernel) (by decide +kernel) (by decide) (fun _ _ h => by rw [h.1]; rfl) (fun _ U U' hal hh h => ⟨h.1, h.2.1.mv hal hh, h.2.2.1, h.2.2.2.1.there hal hh, h.2.2.2.2⟩) (fun r U U' V V' h1 hal h2 h => XT.PureE.mv r U U' V V' h1 hal h2 h) ?_
  intro p e s m args below meth c s₁ X0 hexec hbytes hml hret hlk hnm hown hh0 W hP
  obtain ⟨rfl, hx, hc, s1, hz⟩ := hP
  have c1 : Steps p.tables e below (s₁.setTop (entryFrame m #[.ref x] 1)) (s₁.setTop (mkF m 0 #[.val (.ref x)] [])) := entry rfl
  obtain ⟨T2, X2, q2, st2⟩ := X0.sget hexec hown (wk W (.fieldLink "java/lang/String" 38 "java/lang/String" "COMPACT_STRINGS" "Z")) s1 (fun _ _ h => by rw [hh0]; exact h) (g := (mkF m 0 #[.val (.ref x)] [])) rfl (hb hbytes d0)
  have hh2 := q2.trans hh0
  have c3 : Steps p.tables e below (s₁.setTop (entryFrame m #[.ref x] 1)) (T2.setTop (mkF m 7 #[.val (.ref x)] [.ref x])) := (c1.trans (st2 _ (Steps.refl _))).trans (by
    refine XS.ifNo X2.here hexec rfl (hb hbytes d3) rfl (i0_eq_f hz) ?_
    refine XS.aloadN X2.here hexec rfl (hb hbytes d6) rfl rfl ?_
    exact Steps.refl _)
  obtain ⟨T4, X4, q4, st4⟩ := X2.hget hexec hown (wk W (.fieldLink "java/lang/String" 15 "java/lang/String" "coder" "B")) (hx.mv X2.warmed.alike hh2) (g := (mkF m 7 #[.val (.ref x)] [.ref x])) rfl (rest := []) rfl (hb hbytes d7)
  have c5 : Steps p.tables e below (s₁.setTop (entryFrame m #[.ref x] 1)) (T4.setTop (mkF m 14 #[.val (.ref x)] [.int cd])) := (c3.trans (st4 _ (Steps.refl _))).trans (by
    refine XS.goto X4.here hexec rfl (pc0 := 10) rfl (hb hbytes d10) (by decide) rfl ?_
    exact Steps.refl _)
  exact ⟨T4, some (.int cd), _, _, _, X4, rfl, rfl, rfl, (fun h => by cases h), ⟨rfl, q4.trans hh2⟩, fun fs hl => c5.trans (X4.ireturnOut hexec hret (by rcases hc with rfl | rfl <;> rfl) (Or.inr (Or.inr (Or.inl rfl))) (hb hbytes d14) hl)⟩
end Cdr
namespace Len
def yN : MethodName := ⟨"java/lang/String", "length", "()I"⟩
abbrev yB : ByteArray := jdk_42_method_54_code
theorem d0 : decode yB 0 = .ok (.aload_n 0, 1) := by decide +kernel
theorem d1 : decode yB 1 = .ok (.getfield 9, 3) := by decide +kernel
theorem d4 : decode yB 4 = .ok (.arraylength, 1) := by decide +kernel
theorem d5 : decode yB 5 = .ok (.aload_n 0, 1) := by decide +kernel
theorem d6 : decode yB 6 = .ok (.invokevirtual 335, 3) := by decide +kernel
theorem d9 : decode yB 9 = .ok (.ishr, 1) := by decide +kernel
theorem d10 : decode yB 10 = .ok (.ireturn, 1) := by decide +kernel
def site : List Cond := [.fieldLink "java/lang/String" 9 "java/lang/String" "value" "[B", Cdr.tab] ++ virtW "java/lang/String" 335 "java/lang/String" Cdr.yN Cdr.yN
def tab : Cond := tabOf yN yB 1 (some .int) site
def P (x t : Addr) (V : Cell) (cd : Int32) (n : Nat) (f : Nat → Int32) (z : Int32) (args : Array Value) (s : State) : Prop := args = #[.ref x] ∧ Txt x t V cd n f s ∧ StaticIs s "java/lang/String" "COMPACT_STRINGS" "Z" (.int z) ∧ ¬ z = 0
def E (n : Nat) (r : Option Value) (s u : State) : Prop := XT.PureE (some (.int (Int32.ofNat n))) r s u
/-- length() of a String of n chars, in either coding -/
theorem law (l : Launch) (x t : Addr) (V : Cell) (cd : Int32) (n : Nat) (f : Nat → Int32) (z : Int32) : Law l yN 1 0 1 13 yB 1 (some .int) site (P x t V cd n f z) (E n) [] 0 0 := by
  refine Law.of_walk (plainFor_of_name (by decide +kernel)) (by decide +kernel) (by decide +kernel) (by decide) (fun _ _ h => by rw [h.1]; rfl) (fun _ U U' hal hh h => ⟨h.1, h.2.1.mv hal hh, h.2.2.1.there hal hh, h.2.2.2⟩) (fun r U U' V V' h1 hal h2 h => XT.PureE.mv r U U' V V' h1 hal h2 h) ?_
  intro p e s m args below meth c s₁ X0 hexec hbytes hml hret hlk hnm hown hh0 W hP
  obtain ⟨rfl, hx, s1, hz⟩ := hP
  have v31 := hx.2.2.2.1.2.2.2
  have c1 : Steps p.tables e below (s₁.setTop (entryFrame m #[.ref x] 1)) (s₁.setTop (mkF m 1 #[.val (.ref x)] [.ref x])) := Steps.trans (entry rfl) (by
    show Steps p.tables e below (s₁.setTop (mkF m 0 #[.val (.ref x)] [])) _
    refine XS.aloadN X0.here hexec rfl (hb hbytes d0) rfl rfl ?_
    exact Steps.refl _)
  obtain ⟨T2, X2, q2, st2⟩ := X0.hget hexec hown (wk W (.fieldLink "java/lang/String" 9 "java/lang/String" "value" "[B")) (hx.mv X0.warmed.alike hh0).2.1 (g := (mkF m 1 #[.val (.ref x)] [.ref x])) rfl (rest := []) rfl (hb hbytes d1)
  have hh2 := q2.trans hh0
  have hx2 := hx.mv X2.warmed.alike hh2
  have c3 : Steps p.tables e below (s₁.setTop (entryFrame m #[.ref x] 1)) (T2.setTop (mkF m 6 #[.val (.ref x)] [.ref x, .int (Int32.ofNat V.slots.size)])) := (c1.trans (st2 _ (Steps.refl _))).trans (by
    refine X2.alen hexec hx2.2.2.2.1 rfl rfl (hb hbytes d4) ?_
    refine XS.aloadN X2.here hexec rfl (hb hbytes d5) rfl rfl ?_
    exact Steps.refl _)
  obtain ⟨v4, T4, X4, E4, g4⟩ := X2.callV hexec (Cdr.law l x cd z) hown (wks W (virtW "java/lang/String" 335 "java/lang/String" Cdr.yN Cdr.yN)) rfl (by decide) (wk W Cdr.tab) (W := 1) (Nat.le_of_ble_eq_true rfl) (Nat.le_of_ble_eq_true rfl) (Nat.le_refl _) (Nat.le_refl _) (hx2.1.fc X2.warmed.alike) hx2.1.is (g := (mkF m 6 #[.val (.ref x)] [.ref x, .int (Int32.ofNat V.slots.size)])) rfl (by rw [hml]; rfl) c3 (argsL := []) (rest := [.int (Int32.ofNat V.slots.size)]) rfl rfl (by show 2 * 0 + (1 + 0) ≤ _; decide) (hb hbytes d6) (⟨rfl, hx2.2.2.1, hx.2.2.2.2.1.cd, s1.there X2.warmed.alike hh2, hz⟩)
  obtain ⟨rfl, q4⟩ := E4
  have c5 : Steps p.tables e below (s₁.setTop (entryFrame m #[.ref x] 1)) (T4.setTop (mkF m 10 #[.val (.ref x)] [.int (Int32.ofNat V.slots.size >>> (cd &&& 31))])) := Steps.trans g4 (by
    refine ishr X4.here hexec rfl (hb hbytes d9) rfl ?_
    exact Steps.refl _)
  rw [hx.2.2.2.2.1.len v31] at c5
  exact ⟨T4, some (.int (Int32.ofNat n)), _, _, _, X4, rfl, rfl, rfl, (fun h => by cases h), ⟨rfl, q4.trans hh2⟩, fun fs hl => c5.trans (X4.ireturnOut hexec hret rfl (Or.inl rfl) (hb hbytes d10) hl)⟩
theorem pays {l : Launch} {R : Room} {p : Program} {e : Env} {below : List Frame} {s : State} {sargs : Array Value} {len W : Nat} (x t : Addr) (V : Cell) (cd : Int32) (n : Nat) (f : Nat → Int32) (z : Int32) (htab : tab.before sargs s = true) (hfr : 2 ≤ R.frames) (hlo : W + 25 ≤ R.locals) :
    Back l R p e below s sargs yN len W (fun A₁ a₁ => A₁.cells + 0 ≤ R.cells ∧ A₁.slots + 0 ≤ R.slots ∧ P x t V cd n f z a₁ A₁.U) (fun A₁ _ v₁ B₁ => E n v₁ A₁.U B₁.U ∧ B₁.locs = A₁.locs ++ [] ∧ B₁.cells = A₁.cells + 0 ∧ B₁.slots = A₁.slots + 0) :=
  (law l x t V cd n f z).pays htab hfr (by omega)
end Len
namespace IsL
def yN : MethodName := ⟨"java/lang/String", "isLatin1", "()Z"⟩
abbrev yB : ByteArray := jdk_42_method_154_code
theorem d0 : decode yB 0 = .ok (.getstatic 38, 3) := by decide +kernel
theorem d3 : decode yB 3 = .ok (.ifCond (.eq) 14, 3) := by decide +kernel
theorem d6 : decode yB 6 = .ok (.aload_n 0, 1) := by decide +kernel
theorem d7 : decode yB 7 = .ok (.getfield 15, 3) := by decide +kernel
theorem d10 : decode yB 10 = .ok (.ifCond (.ne) 7, 3) := by decide +kernel
theorem d13 : decode yB 13 = .ok (.iconst 1, 1) := by decide +kernel
theorem d14 : decode yB 14 = .ok (.goto 4, 3) := by decide +kernel
theorem d17 : decode yB 17 = .ok (.iconst 0, 1) := by decide +kernel
theorem d18 : decode yB 18 = .ok (.ireturn, 1) := by decide +kernel
def site : List Cond := [.fieldLink "java/lang/String" 38 "java/lang/String" "COMPACT_STRINGS" "Z", .fieldLink "java/lang/String" 15 "java/lang/String" "coder" "B"]
def tab : Cond := tabOf yN yB 1 (some .boolean) site
def P (x : Addr) (cd z : Int32) (args : Array Value) (s : State) : Prop := args = #[.ref x] ∧ Has x "java/lang/String" "coder" "B" (.int cd) s ∧ (cd = 0 ∨ cd = 1) ∧ StaticIs s "java/lang/String" "COMPACT_STRINGS" "Z" (.int z) ∧ ¬ z = 0
def E (cd : Int32) (r : Option Value) (s u : State) : Prop := XT.PureE (some (.int (1 - cd))) r s u
theorem law (l : Launch) (x : Addr) (cd z : Int32) : Law l yN 1 0 0 0 yB 1 (some .boolean) site (P x cd z) (E cd) [] 0 0 := by
  refine Law.of_walk (plainFor_of_name (by decide +kernel)) (by decide +kernel) (by decide +kernel) (by decide) (fun _ _ h => by rw [h.1]; rfl) (fun _ U U' hal hh h => ⟨h.1, h.2.1.mv hal hh, h.2.2.1, h.2.2.2.1.there hal hh, h.2.2.2.2⟩) (fun r U U' V V' h1 hal h2 h => XT.PureE.mv r U U' V V' h1 hal h2 h) ?_
  intro p e s m args below meth c s₁ X0 hexec hbytes hml hret hlk hnm hown hh0 W hP
  obtain ⟨rfl, hx, hc, s1, hz⟩ := hP
  have c1 : Steps p.tables e below (s₁.setTop (entryFrame m #[.ref x] 1)) (s₁.setTop (mkF m 0 #[.val (.ref x)] [])) := entry rfl
  obtain ⟨T2, X2, q2, st2⟩ := X0.sget hexec hown (wk W (.fieldLink "java/lang/String" 38 "java/lang/String" "COMPACT_STRINGS" "Z")) s1 (fun _ _ h => by rw [hh0]; exact h) (g := (mkF m 0 #[.val (.ref x)] [])) rfl (hb hbytes d0)
  have hh2 := q2.trans hh0
  have c3 : Steps p.tables e below (s₁.setTop (entryFrame m #[.ref x] 1)) (T2.setTop (mkF m 7 #[.val (.ref x)] [.ref x])) := (c1.trans (st2 _ (Steps.refl _))).trans (by
    refine XS.ifNo X2.here hexec rfl (hb hbytes d3) rfl (i0_eq_f hz) ?_
    refine XS.aloadN X2.here hexec rfl (hb hbytes d6) rfl rfl ?_
    exact Steps.refl _)
  obtain ⟨T4, X4, q4, st4⟩ := X2.hget hexec hown (wk W (.fieldLink "java/lang/String" 15 "java/lang/String" "coder" "B")) (hx.mv X2.warmed.alike hh2) (g := (mkF m 7 #[.val (.ref x)] [.ref x])) rfl (rest := []) rfl (hb hbytes d7)
  have c5 : Steps p.tables e below (s₁.setTop (entryFrame m #[.ref x] 1)) (T4.setTop (mkF m 10 #[.val (.ref x)] [.int cd])) := c3.trans (st4 _ (Steps.refl _))
  have c6 : Steps p.tables e below (s₁.setTop (entryFrame m #[.ref x] 1)) (T4.setTop (mkF m 18 #[.val (.ref x)] [.int (1 - cd)])) := by
    rcases hc with rfl | rfl
    · exact c5.trans (by
        refine XS.ifNo X4.here hexec rfl (hb hbytes d10) rfl (i0_ne_f rfl) ?_
        refine iconstV X4.here hexec rfl 1 (hb hbytes d13) (by decide) ?_
        refine XS.goto X4.here hexec rfl (pc0 := 14) rfl (hb hbytes d14) (by decide) rfl ?_
        exact Steps.refl _)
    · exact c5.trans (by
        refine XS.ifYes X4.here hexec rfl (pc0 := 10) rfl (hb hbytes d10) rfl (i0_ne_t (by decide)) (by decide) rfl ?_
        refine iconstV X4.here hexec rfl 0 (hb hbytes d17) (by decide) ?_
        exact Steps.refl _)
  exact ⟨T4, some (.int (1 - cd)), _, _, _, X4, rfl, rfl, rfl, (fun h => by cases h), ⟨rfl, q4.trans hh2⟩, fun fs hl => c6.trans (X4.ireturnOut hexec hret (by rcases hc with rfl | rfl <;> rfl) (Or.inr (Or.inl rfl)) (hb hbytes d18) hl)⟩
end IsL
namespace LChA
def yN : MethodName := ⟨"java/lang/StringLatin1", "charAt", "([BI)C"⟩
abbrev yB : ByteArray := jdk_43_method_2_code
theorem d0 : decode yB 0 = .ok (.iload_n 1, 1) := by decide +kernel
theorem d1 : decode yB 1 = .ok (.aload_n 0, 1) := by decide +kernel
theorem d2 : decode yB 2 = .ok (.arraylength, 1) := by decide +kernel
theorem d3 : decode yB 3 = .ok (.invokestatic 9, 3) := by decide +kernel
theorem d6 : decode yB 6 = .ok (.aload_n 0, 1) := by decide +kernel
theorem d7 : decode yB 7 = .ok (.iload_n 1, 1) := by decide +kernel
theorem d8 : decode yB 8 = .ok (.baload, 1) := by decide +kernel
theorem d9 : decode yB 9 = .ok (.sipush 255, 3) := by decide +kernel
theorem d12 : decode yB 12 = .ok (.iand, 1) := by decide +kernel
theorem d13 : decode yB 13 = .ok (.i2c, 1) := by decide +kernel
theorem d14 : decode yB 14 = .ok (.ireturn, 1) := by decide +kernel
def site : List Cond := [JO.Str_checkIndex.tab] ++ staticW "java/lang/StringLatin1" 9 JO.Str_checkIndex.yN
def tab : Cond := tabOf yN yB 2 (some .char) site
def P (t : Addr) (V : Cell) (i : Nat) (u : Int32) (fm : Value) (args : Array Value) (s : State) : Prop := args = #[.ref t, .int (Int32.ofNat i)] ∧ XT.Arr .byte t V s ∧ V.slots[i]? = some (.int u) ∧ (StaticIs s "jdk/internal/util/Preconditions" "SIOOBE_FORMATTER" "Ljava/util/function/BiFunction;" fm ∧ fm.isRef = true)
def E (u : Int32) (r : Option Value) (s w : State) : Prop := XT.PureE (some (.int (chr8 u))) r s w
theorem law (l : Launch) (t : Addr) (V : Cell) (i : Nat) (u : Int32) (fm : Value) : Law l yN 2 2 2 27 yB 2 (some .char) site (P t V i u fm) (E u) [] 0 0 := by
  refine Law.of_walk (plainFor_of_name (by decide +kernel)) (by decide +kernel) (by decide +kernel) (by decide) (fun _ _ h => by rw [h.1]; rfl) (fun _ U U' hal hh h => ⟨h.1, h.2.1.mv hal hh, h.2.2.1, h.2.2.2.1.there hal hh, h.2.2.2.2⟩) (fun r U U' V V' h1 hal h2 h => XT.PureE.mv r U U' V V' h1 hal h2 h) ?_
  intro p e s m args below meth c s₁ X0 hexec hbytes hml hret hlk hnm hown hh0 W hP
  obtain ⟨rfl, hV, hu, s1, rf⟩ := hP
  have v31 := hV.2.2.2
  have hi : i < V.slots.size := (Array.getElem?_eq_some_iff.mp hu).1
  have c1 : Steps p.tables e below (s₁.setTop (entryFrame m #[.ref t, .int (Int32.ofNat i)] 2)) (s₁.setTop (mkF m 0 #[.val (.ref t), .val (.int (Int32.ofNat i))] [])) := entry rfl
  have c2 : Steps p.tables e below (s₁.setTop (entryFrame m #[.ref t, .int (Int32.ofNat i)] 2)) (s₁.setTop (mkF m 3 #[.val (.ref t), .val (.int (Int32.ofNat i))] [.int (Int32.ofNat V.slots.size), .int (Int32.ofNat i)])) := c1.trans (by
    refine XS.iloadN X0.here hexec rfl (hb hbytes d0) rfl ?_
    refine XS.aloadN X0.here hexec rfl (hb hbytes d1) rfl rfl ?_
    refine X0.alen hexec (hV.mv X0.warmed.alike hh0) rfl rfl (hb hbytes d2) ?_
    exact Steps.refl _)
  obtain ⟨v3, T3, X3, E3, g3⟩ := X0.callS hexec (JO.Str_checkIndex.law l (Int32.ofNat i) (Int32.ofNat V.slots.size) fm) hown (wks W (staticW "java/lang/StringLatin1" 9 JO.Str_checkIndex.yN)) (wk W JO.Str_checkIndex.tab) (W := 0) (Nat.le_of_ble_eq_true rfl) (Nat.le_of_ble_eq_true rfl) (Nat.le_refl _) (Nat.le_refl _) (g := (mkF m 3 #[.val (.ref t), .val (.int (Int32.ofNat i))] [.int (Int32.ofNat V.slots.size), .int (Int32.ofNat i)])) rfl (by rw [hml]; rfl) c2 (argsL := [.int (Int32.ofNat i), .int (Int32.ofNat V.slots.size)]) (rest := []) rfl rfl (by show 2 * 0 + 0 ≤ _; decide) (hb hbytes d3) (⟨rfl, rf, s1.there X0.warmed.alike hh0, Int32.ofNat_not_neg (by omega), lt32 v31 hi⟩)
  obtain ⟨rfl, q3⟩ := E3
  have hh3 := q3.trans hh0
  have c4 : Steps p.tables e below (s₁.setTop (entryFrame m #[.ref t, .int (Int32.ofNat i)] 2)) (T3.setTop (mkF m 14 #[.val (.ref t), .val (.int (Int32.ofNat i))] [.int (chr8 u)])) := Steps.trans g3 (by
    refine XS.aloadN X3.here hexec rfl (hb hbytes d6) rfl rfl ?_
    refine XS.iloadN X3.here hexec rfl (hb hbytes d7) rfl ?_
    refine X3.aget hexec (hV.mv X3.warmed.alike hh3) rfl hu rfl rfl (hb hbytes d8) ?_
    refine sipushV X3.here hexec rfl 255 (hb hbytes d9) (by decide) ?_
    refine XS.iand X3.here hexec rfl (hb hbytes d12) rfl ?_
    refine i2c X3.here hexec rfl (hb hbytes d13) rfl ?_
    exact Steps.refl _)
  exact ⟨T3, some (.int (chr8 u)), _, _, _, X3, rfl, rfl, rfl, (fun h => by cases h), ⟨rfl, hh3⟩, fun fs hl => c4.trans (X3.ireturnOut hexec hret (narrow_c _) (Or.inr (Or.inr (Or.inr (Or.inl rfl)))) (hb hbytes d14) hl)⟩
end LChA
end StrChars
namespace StrChars.Road
open Jvm Sem ClassFile Op Lib Jvm.Stand Jvm.Free Jvm.Free.XT
open Jvm.Lib.Cold (StaticIs)
theorem consq {a : Array Value} {s : State} {c : Jvm.Cond} {L : List Jvm.Cond} (h0 : c.before a s = true) (h : ∀ w ∈ L, w.before a s = true) : ∀ w ∈ c :: L, w.before a s = true := fun w hw => (List.mem_cons.mp hw).elim (fun e => e ▸ h0) (h w)
/-- the words of String.length(), either coding -/
abbrev wordsLen : List Jvm.Cond := [.code Len.yN Len.yB 1 (some .int), .initialized ST, .fieldLink ST 9 ST "value" "[B", .fieldLink ST 38 ST "COMPACT_STRINGS" "Z", .fieldLink ST 15 ST "coder" "B", .code Cdr.yN Cdr.yB 1 (some .byte), .methodLink ST 335 Cdr.yN, .declares Cdr.yN, .selects ST Cdr.yN Cdr.yN, .instanceMethod Cdr.yN]
theorem tabLen_of {a : Array Value} {s : State} (h : ∀ w ∈ wordsLen, w.before a s = true) : Len.tab.before a s = true := by
  have hc : Cdr.tab.before a s = true := unparts (wk h (.code Cdr.yN Cdr.yB 1 (some .byte))) (wks h (.initialized Cdr.yN.cls :: Cdr.site))
  have q := consq hc h
  exact unparts (wk q (.code Len.yN Len.yB 1 (some .int))) (wks q (.initialized Len.yN.cls :: Len.site))
theorem movedLen {Z s : State} {a0 args : Array Value} (hZ : Z.Warmed39 s.vm) (hw : ∀ d ∈ wordsLen, d.before a0 Z = true) : ∀ d ∈ wordsLen, d.before args s = true := fun d hd => by
  have q := hw d hd
  have t : ∀ d ∈ wordsLen, d = .arrayClass .byte ∨ (d.onTables && d.keepsFace) = true := by decide +kernel
  rcases t d hd with rfl | t
  · exact RoadKit.mvA hZ q
  · exact RoadKit.mv hZ q t
/-- the bytes of the chars cs, low before high -/
def wideBytes : List Int32 → List Value
  | [] => []
  | c :: cs => .int (lo8 c) :: .int (hi8 c) :: wideBytes cs
theorem wide_lo (d : Value) : ∀ (cs : List Int32) (j : Nat), j < cs.length → (wideBytes cs).getD (2 * j) d = .int (lo8 (cs.getD j 0))
  | [], j, h => absurd h (Nat.not_lt_zero j)
  | c :: cs, 0, _ => rfl
  | c :: cs, j + 1, h => by
    have q := wide_lo d cs j (by simpa using h)
    rw [show 2 * (j + 1) = 2 * j + 1 + 1 from by omega]
    simpa [wideBytes] using q
theorem wide_hi (d : Value) : ∀ (cs : List Int32) (j : Nat), j < cs.length → (wideBytes cs).getD (2 * j + 1) d = .int (hi8 (cs.getD j 0))
  | [], j, h => absurd h (Nat.not_lt_zero j)
  | c :: cs, 0, _ => rfl
  | c :: cs, j + 1, h => by
    have q := wide_hi d cs j (by simpa using h)
    rw [show 2 * (j + 1) + 1 = 2 * j + 1 + 1 + 1 from by omega]
    simpa [wideBytes] using q
theorem low_at (d : Value) (cs : List Int32) (j : Nat) (h : j < cs.length) : (cs.map fun c => Value.int (lo8 c)).getD j d = .int (lo8 (cs.getD j 0)) := by
  simp [List.getD_eq_getElem?_getD, h]
/-- an array of N2 bytes vs codes the chars cs by the coder cd -/
def CodA (cs : List Int32) (cd N2 : Int32) (vs : List Value) : Prop := (cd = 0 ∧ N2 = Int32.ofNat cs.length ∧ vs = (cs.map fun c => Value.int (lo8 c)) ∧ ∀ c ∈ cs, ¬ 255 < c) ∨ (cd = 1 ∧ N2 = Int32.ofNat (2 * cs.length) ∧ vs = wideBytes cs ∧ ∃ c ∈ cs, 255 < c)
theorem CodA.cod {cs : List Int32} {cd N2 : Int32} {vs : List Value} {V : Cell} (h : CodA cs cd N2 vs) (hn : 2 * cs.length < 2 ^ 31) (hs : V.slots.size = N2.toNatClampNeg) (hv : RoadKit.Has V vs (.int 0)) : Cod cd cs.length (fun j => cs.getD j 0) V := by
  rcases h with ⟨rfl, rfl, rfl, h⟩ | ⟨rfl, rfl, rfl, c, hc, hw⟩
  · rw [n32 (by omega)] at hs
    exact Or.inl ⟨rfl, hs, fun j hj => ⟨by rw [hv j (by omega), low_at _ _ _ hj], by
      have e : cs.getD j 0 = cs[j] := by simp [List.getD_eq_getElem?_getD, hj]
      show ¬ 255 < cs.getD j 0
      rw [e]; exact h _ (List.getElem_mem _)⟩⟩
  · rw [n32 (by omega)] at hs
    obtain ⟨j, hj, rfl⟩ := List.getElem_of_mem hc
    exact Or.inr ⟨rfl, hs, fun j hj => ⟨by rw [hv _ (by omega), wide_lo _ _ _ hj], by rw [hv _ (by omega), wide_hi _ _ _ hj]⟩, j, hj, by
      have e : cs.getD j 0 = cs[j] := by simp [List.getD_eq_getElem?_getD, hj]
      show 255 < cs.getD j 0
      rw [e]; exact hw⟩
/-- an object of exactly java/lang/String, its two fields found: as the laws ask it -/
theorem strObj {Z U : State} {a0 : Array Value} {kI : Nat} (wi : (Jvm.Cond.instantiable ST kI).before a0 Z = true) (al : Z.vm.Alike U.vm) {x : Addr} {v0 c0 : Value} (E : RoadKit.Exa Z U.heap x ST) (V : RoadKit.Fld Z U.heap x ST "value" "[B" v0) (C : RoadKit.Fld Z U.heap x ST "coder" "B" c0) :
    ∃ (D : Cell) (fV fC : Field), Blank ST x D U ∧ Found ST "value" "[B" fV U ∧ Found ST "coder" "B" fC U ∧ D.slots[fV.slot]? = some v0 ∧ D.slots[fC.slot]? = some c0 ∧ RoadKit.slotOf Z ST "value" "[B" = fV.slot ∧ RoadKit.slotOf Z ST "coder" "B" = fC.slot := by
  obtain ⟨D, cfV, kV, iV, fV, hD, gV, stV, knV, obV, asV, slV⟩ := V
  obtain ⟨D', cfC, kC, iC, fC, hD', gC, stC, -, -, asC, slC⟩ := C
  cases hD.symm.trans hD'
  obtain ⟨D2, kD, e1, e2, e3, e4, e5⟩ := E
  cases hD.symm.trans e1
  obtain ⟨c2, k2, i1, i2, i3, -⟩ := Cond.instantiable_spec wi
  cases e2.symm.trans i1
  cases e3.symm.trans i2
  obtain ⟨kU, u1, u2⟩ := al.2.2 _ _ e3
  exact ⟨D, fV, fC, ⟨hD, ⟨knV, fun q hq => by rw [hq] at obV; cases obV⟩, by rw [al.findClass]; exact e2, kU, u1, by rw [u2]; exact i3, by rw [u2]; exact e5 i3⟩, ⟨SBG.found_only al ⟨cfV, kV, iV, gV⟩, stV⟩, ⟨SBG.found_only al ⟨cfC, kC, iC, gC⟩, stC⟩, slV, slC, by simp [RoadKit.slotOf, gV], by simp [RoadKit.slotOf, gC]⟩
theorem sta_is {Z U : State} (al : Z.vm.Alike U.vm) {C n d : String} {v : Value} (S : RoadKit.Sta Z U.heap C n d v) : StaticIs U C n d v := by
  obtain ⟨cfS, iS, kS, fS, st, cS, t1, t2, t3, t4, t5, t6, t7⟩ := S
  exact StaticIs.there (s := { Z with heap := U.heap }) ⟨cfS, iS, kS, fS, st, cS, t1, t2, t3, t4, t5, (fun q => by rw [q] at t6; cases t6), t7⟩ al rfl
/-- **length() OF SUCH A STRING** -/
theorem lenW {p : Program} {l : Launch} {e : Env} {R : Room} {s : State} {args : Array Value} {below : List Frame} {len W : Nat} {Z : State} {a0 : Array Value} {h : Heap} (hZ : Z.Warmed39 s.vm) (hw : ∀ d ∈ wordsLen, d.before a0 Z = true) {kI : Nat} (wi : (Jvm.Cond.instantiable ST kI).before a0 Z = true)
    {x t : Addr} {kb : ClassId} {cs : List Int32} {cd N2 z : Int32} {vs : List Value} (E : RoadKit.Exa Z h x ST) (V : RoadKit.Fld Z h x ST "value" "[B" (.ref t)) (C : RoadKit.Fld Z h x ST "coder" "B" (.int cd)) (K : RoadKit.Arv Z h t kb .byte N2 vs (.int 0)) (hc : CodA cs cd N2 vs) (hb : ∀ c ∈ cs, ¬ c < 0 ∧ ¬ (65535 : Int32) < c)
    (S : RoadKit.Sta Z h ST "COMPACT_STRINGS" "Z" (.int z)) (hz : ¬ z = 0) (l2 : cs.length ≤ 4000) (hfr : 2 ≤ R.frames) (hlo : W + 25 ≤ R.locals) :
    Back l R p e below s args (⟨"java/lang/String", "length", "()I"⟩ : MethodName) len W (fun P a => a = #[.ref x] ∧ P.U.heap = h ∧ P.cells + 0 ≤ R.cells ∧ P.slots + 0 ≤ R.slots)
      (fun P _ v B => ∃ L, (v = some (.int (Int32.ofNat cs.length)) ∧ L = [] ∧ B.U.heap = h) ∧ B.locs = P.locs ++ L ∧ B.cells = P.cells + 0 ∧ B.slots = P.slots + 0) := by
  obtain ⟨A, K1, K2, K3, K4, K5, K6⟩ := K
  have hcod := hc.cod (by omega) K3 K5
  intro m meth c P g ig mk a X hg hsize hdg hW hn hp'
  obtain ⟨rfl, rfl, r1, r2⟩ := hp'
  have al : Z.vm.Alike P.U.vm := hZ.alike.trans X.warmed.alike
  obtain ⟨D, fV, fC, hB, F1, F2, g1, g2, -, -⟩ := strObj wi al E V C
  have hx : Txt x t A cd cs.length (fun j => cs.getD j 0) P.U := ⟨⟨_, hB.2.2.1, D, hB.1, rfl, by cases q : D.vm <;> first | rfl | exact absurd q (hB.2.1.2 _)⟩, Has.of hB F1 g1, Has.of hB F2 g2, ⟨K1.1, State.isArrayOf_alike al K1.2.1, K1.2.2, by rcases hcod with ⟨-, q, -⟩ | ⟨-, q, -⟩ <;> omega⟩, hcod, fun j hj => by
    have e : cs.getD j 0 = cs[j] := by simp [List.getD_eq_getElem?_getD, hj]
    show ¬ cs.getD j 0 < 0 ∧ ¬ 65535 < cs.getD j 0
    rw [e]; exact hb _ (List.getElem_mem _)⟩
  obtain ⟨v, B, X', ⟨⟨hv, hh⟩, hl, hk, hs⟩, st⟩ := Len.pays x t A cd cs.length (fun j => cs.getD j 0) z (tabLen_of (movedLen hZ hw)) hfr hlo m meth c P g ig mk _ X hg hsize hdg hW hn ⟨r1, r2, rfl, hx, sta_is al S, hz⟩
  exact ⟨v, B, X', ⟨[], ⟨hv, rfl, hh⟩, hl, hk, hs⟩, st⟩
end StrChars.Road
namespace StrChars.Road
open Jvm Sem ClassFile Op Lib Jvm.Stand Jvm.Free Jvm.Free.XT
open Jvm.Lib.Cold (StaticIs)
/-- the road's facts of a String, as the laws ask it -/
theorem txt_of {Z U : State} {a0 : Array Value} {kI : Nat} (wi : (Jvm.Cond.instantiable ST kI).before a0 Z = true) (al : Z.vm.Alike U.vm) {x t : Addr} {kb : ClassId} {cs : List Int32} {cd N2 : Int32} {vs : List Value} (E : RoadKit.Exa Z U.heap x ST) (V : RoadKit.Fld Z U.heap x ST "value" "[B" (.ref t)) (C : RoadKit.Fld Z U.heap x ST "coder" "B" (.int cd)) (K : RoadKit.Arv Z U.heap t kb .byte N2 vs (.int 0)) (hc : CodA cs cd N2 vs) (hb : ∀ c ∈ cs, ¬ c < 0 ∧ ¬ (65535 : Int32) < c) (l2 : cs.length ≤ 4000) :
    ∃ A, Txt x t A cd cs.length (fun j => cs.getD j 0) U := by
  obtain ⟨A, K1, K2, K3, K4, K5, K6⟩ := K
  have hcod := hc.cod (by omega) K3 K5
  obtain ⟨D, fV, fC, hB, F1, F2, g1, g2, -, -⟩ := strObj wi al E V C
  exact ⟨A, ⟨_, hB.2.2.1, D, hB.1, rfl, by cases q : D.vm <;> first | rfl | exact absurd q (hB.2.1.2 _)⟩, Has.of hB F1 g1, Has.of hB F2 g2, ⟨K1.1, State.isArrayOf_alike al K1.2.1, K1.2.2, by rcases hcod with ⟨-, q, -⟩ | ⟨-, q, -⟩ <;> omega⟩, hcod, fun j hj => by
    have e : cs.getD j 0 = cs[j] := by simp [List.getD_eq_getElem?_getD, hj]
    show ¬ cs.getD j 0 < 0 ∧ ¬ 65535 < cs.getD j 0
    rw [e]; exact hb _ (List.getElem_mem _)⟩
end StrChars.Road
namespace StrChars
open Jvm Sem ClassFile Op Lib Jvm.Stand Jvm.Free.XT Jvm.Free.ALB Jvm.Free.JM Jvm.Free
open Jvm.Lib.Cold (StaticIs)
namespace ChN
def yN : MethodName := ⟨"java/lang/String", "charAt", "(I)C"⟩
abbrev yB : ByteArray := jdk_42_method_56_code
theorem d0 : decode yB 0 = .ok (.aload_n 0, 1) := by decide +kernel
theorem d1 : decode yB 1 = .ok (.invokevirtual 492, 3) := by decide +kernel
theorem d4 : decode yB 4 = .ok (.ifCond (.eq) 12, 3) := by decide +kernel
theorem d7 : decode yB 7 = .ok (.aload_n 0, 1) := by decide +kernel
theorem d8 : decode yB 8 = .ok (.getfield 9, 3) := by decide +kernel
theorem d11 : decode yB 11 = .ok (.iload_n 1, 1) := by decide +kernel
theorem d12 : decode yB 12 = .ok (.invokestatic 495, 3) := by decide +kernel
theorem d15 : decode yB 15 = .ok (.ireturn, 1) := by decide +kernel
def site : List Cond := [.fieldLink "java/lang/String" 9 "java/lang/String" "value" "[B", IsL.tab, LChA.tab] ++ virtW "java/lang/String" 492 "java/lang/String" IsL.yN IsL.yN ++ staticW "java/lang/String" 495 LChA.yN
def tab : Cond := tabOf yN yB 2 (some .char) site
def P (x t : Addr) (V : Cell) (n : Nat) (f : Nat → Int32) (z : Int32) (fm : Value) (i : Nat) (args : Array Value) (s : State) : Prop := args = #[.ref x, .int (Int32.ofNat i)] ∧ Txt x t V 0 n f s ∧ i < n ∧ StaticIs s "java/lang/String" "COMPACT_STRINGS" "Z" (.int z) ∧ ¬ z = 0 ∧ StaticIs s "jdk/internal/util/Preconditions" "SIOOBE_FORMATTER" "Ljava/util/function/BiFunction;" fm ∧ fm.isRef = true
def E (f : Nat → Int32) (i : Nat) (r : Option Value) (s u : State) : Prop := XT.PureE (some (.int (f i))) r s u
/-- charAt(i) of a Latin-1 String of n chars, i < n: f i -/
theorem law (l : Launch) (x t : Addr) (V : Cell) (n : Nat) (f : Nat → Int32) (z : Int32) (fm : Value) (i : Nat) : Law l yN 2 1 3 40 yB 2 (some .char) site (P x t V n f z fm i) (E f i) [] 0 0 := by
  refine Law.of_walk (plainFor_of_name (by decide +kernel)) (by decide +kernel) (by decide +kernel) (by decide) (fun _ _ h => by rw [h.1]; rfl) (fun _ U U' hal hh h => ⟨h.1, h.2.1.mv hal hh, h.2.2.1, h.2.2.2.1.there hal hh, h.2.2.2.2.1, h.2.2.2.2.2.1.there hal hh, h.2.2.2.2.2.2⟩) (fun r U U' V V' h1 hal h2 h => XT.PureE.mv r U U' V V' h1 hal h2 h) ?_
  intro p e s m args below meth c s₁ X0 hexec hbytes hml hret hlk hnm hown hh0 W hP
  obtain ⟨rfl, hx, hi, s1, hz, s3, rf⟩ := hP
  have v31 := hx.2.2.2.1.2.2.2
  have hr := hx.2.2.2.2.2 i hi
  have hx0 := hx.mv X0.warmed.alike hh0
  have c1 : Steps p.tables e below (s₁.setTop (entryFrame m #[.ref x, .int (Int32.ofNat i)] 2)) (s₁.setTop (mkF m 1 #[.val (.ref x), .val (.int (Int32.ofNat i))] [.ref x])) := Steps.trans (entry rfl) (by
    show Steps p.tables e below (s₁.setTop (mkF m 0 #[.val (.ref x), .val (.int (Int32.ofNat i))] [])) _
    refine XS.aloadN X0.here hexec rfl (hb hbytes d0) rfl rfl ?_
    exact Steps.refl _)
  obtain ⟨v2, T2, X2, E2, g2⟩ := X0.callV hexec (IsL.law l x 0 z) hown (wks W (virtW "java/lang/String" 492 "java/lang/String" IsL.yN IsL.yN)) rfl (by decide) (wk W IsL.tab) (W := 0) (Nat.le_of_ble_eq_true rfl) (Nat.le_of_ble_eq_true rfl) (Nat.le_refl _) (Nat.le_refl _) (hx0.1.fc X0.warmed.alike) hx0.1.is (g := (mkF m 1 #[.val (.ref x), .val (.int (Int32.ofNat i))] [.ref x])) rfl (by rw [hml]; rfl) c1 (argsL := []) (rest := []) rfl rfl (by show 2 * 0 + 0 ≤ _; decide) (hb hbytes d1) (⟨rfl, hx0.2.2.1, hx.2.2.2.2.1.cd, s1.there X0.warmed.alike hh0, hz⟩)
  obtain ⟨rfl, q2⟩ := E2
  have hh2 := q2.trans hh0
  have hx2 := hx.mv X2.warmed.alike hh2
  obtain ⟨-, k1, k2⟩ | ⟨k0, -⟩ := hx.2.2.2.2.1
  · have c3 : Steps p.tables e below (s₁.setTop (entryFrame m #[.ref x, .int (Int32.ofNat i)] 2)) (T2.setTop (mkF m 8 #[.val (.ref x), .val (.int (Int32.ofNat i))] [.ref x])) := Steps.trans g2 (by
      refine XS.ifNo X2.here hexec rfl (hb hbytes d4) rfl (i0_eq_f (by decide)) ?_
      refine XS.aloadN X2.here hexec rfl (hb hbytes d7) rfl rfl ?_
      exact Steps.refl _)
    obtain ⟨T4, X4, q4, st4⟩ := X2.hget hexec hown (wk W (.fieldLink "java/lang/String" 9 "java/lang/String" "value" "[B")) hx2.2.1 (g := (mkF m 8 #[.val (.ref x), .val (.int (Int32.ofNat i))] [.ref x])) rfl (rest := []) rfl (hb hbytes d8)
    have hh4 := q4.trans hh2
    have c5 : Steps p.tables e below (s₁.setTop (entryFrame m #[.ref x, .int (Int32.ofNat i)] 2)) (T4.setTop (mkF m 12 #[.val (.ref x), .val (.int (Int32.ofNat i))] [.int (Int32.ofNat i), .ref t])) := (c3.trans (st4 _ (Steps.refl _))).trans (by
      refine XS.iloadN X4.here hexec rfl (hb hbytes d11) rfl ?_
      exact Steps.refl _)
    obtain ⟨v6, T6, X6, E6, g6⟩ := X4.callS hexec (LChA.law l t V i (lo8 (f i)) fm) hown (wks W (staticW "java/lang/String" 495 LChA.yN)) (wk W LChA.tab) (W := 0) (Nat.le_of_ble_eq_true rfl) (Nat.le_of_ble_eq_true rfl) (Nat.le_refl _) (Nat.le_refl _) (g := (mkF m 12 #[.val (.ref x), .val (.int (Int32.ofNat i))] [.int (Int32.ofNat i), .ref t])) rfl (by rw [hml]; rfl) c5 (argsL := [.ref t, .int (Int32.ofNat i)]) (rest := []) rfl rfl (by show 2 * 0 + 0 ≤ _; decide) (hb hbytes d12) (⟨rfl, hx.2.2.2.1.mv X4.warmed.alike hh4, (k2 i hi).1, s3.there X4.warmed.alike hh4, rf⟩)
    obtain ⟨rfl, q6⟩ := E6
    rw [chr8_lo8 hr.1 (k2 i hi).2] at g6
    exact ⟨T6, some (.int (f i)), _, _, _, X6, rfl, rfl, rfl, (fun h => by cases h), ⟨rfl, q6.trans hh4⟩, fun fs hl => Steps.trans g6 (X6.ireturnOut hexec hret (narrow_ch hr.1 hr.2) (Or.inr (Or.inr (Or.inr (Or.inl rfl)))) (hb hbytes d15) hl)⟩
  · exact absurd k0 (by decide)
theorem pays {l : Launch} {R : Room} {p : Program} {e : Env} {below : List Frame} {s : State} {sargs : Array Value} {len W : Nat} (x t : Addr) (V : Cell) (n : Nat) (f : Nat → Int32) (z : Int32) (fm : Value) (i : Nat) (htab : tab.before sargs s = true) (hfr : 4 ≤ R.frames) (hlo : W + 53 ≤ R.locals) :
    Back l R p e below s sargs yN len W (fun A₁ a₁ => A₁.cells + 0 ≤ R.cells ∧ A₁.slots + 0 ≤ R.slots ∧ P x t V n f z fm i a₁ A₁.U) (fun A₁ _ v₁ B₁ => E f i v₁ A₁.U B₁.U ∧ B₁.locs = A₁.locs ++ [] ∧ B₁.cells = A₁.cells + 0 ∧ B₁.slots = A₁.slots + 0) :=
  (law l x t V n f z fm i).pays htab hfr (by omega)
end ChN
end StrChars
namespace StrChars.Road
open Jvm Sem ClassFile Op Lib Jvm.Stand Jvm.Free Jvm.Free.XT
open Jvm.Lib.Cold (StaticIs)
/-- the words of String.charAt(int), the Latin-1 road alone -/
abbrev wordsChN : List Jvm.Cond := [.code ChN.yN ChN.yB 2 (some .char), .initialized ST, .fieldLink ST 9 ST "value" "[B", .fieldLink ST 38 ST "COMPACT_STRINGS" "Z", .fieldLink ST 15 ST "coder" "B", .code IsL.yN IsL.yB 1 (some .boolean), .methodLink ST 492 IsL.yN, .declares IsL.yN, .selects ST IsL.yN IsL.yN, .instanceMethod IsL.yN,
  .methodLink ST 495 LChA.yN, .static LChA.yN, .code LChA.yN LChA.yB 2 (some .char), .initialized "java/lang/StringLatin1", .methodLink "java/lang/StringLatin1" 9 JO.Str_checkIndex.yN, .static JO.Str_checkIndex.yN, .code JO.Str_checkIndex.yN JO.Str_checkIndex.yB 2 none,
  .fieldLink ST 1053 "jdk/internal/util/Preconditions" "SIOOBE_FORMATTER" "Ljava/util/function/BiFunction;", .methodLink ST 1059 JC.PreCheck.yN, .static JC.PreCheck.yN, .code JC.PreCheck.yN JC.PreCheck.yB 3 (some .int), .initialized "jdk/internal/util/Preconditions"]
theorem tabChN_of {a : Array Value} {s : State} (h : ∀ w ∈ wordsChN, w.before a s = true) : ChN.tab.before a s = true := by
  have hp : JC.PreCheck.tab.before a s = true := unparts (wk h (.code JC.PreCheck.yN JC.PreCheck.yB 3 (some .int))) (wks h (.initialized JC.PreCheck.yN.cls :: JC.PreCheck.site))
  have qk := consq hp h
  have hk : JO.Str_checkIndex.tab.before a s = true := unparts (wk qk (.code JO.Str_checkIndex.yN JO.Str_checkIndex.yB 2 none)) (wks qk (.initialized JO.Str_checkIndex.yN.cls :: JO.Str_checkIndex.site))
  have ql := consq hk h
  have hl : LChA.tab.before a s = true := unparts (wk ql (.code LChA.yN LChA.yB 2 (some .char))) (wks ql (.initialized LChA.yN.cls :: LChA.site))
  have hi : IsL.tab.before a s = true := unparts (wk h (.code IsL.yN IsL.yB 1 (some .boolean))) (wks h (.initialized IsL.yN.cls :: IsL.site))
  have q := consq hi (consq hl h)
  exact unparts (wk q (.code ChN.yN ChN.yB 2 (some .char))) (wks q (.initialized ChN.yN.cls :: ChN.site))
theorem movedChN {Z s : State} {a0 args : Array Value} (hZ : Z.Warmed39 s.vm) (hw : ∀ d ∈ wordsChN, d.before a0 Z = true) : ∀ d ∈ wordsChN, d.before args s = true := fun d hd => by
  have t : ∀ d ∈ wordsChN, (d.onTables && d.keepsFace) = true := by decide +kernel
  exact RoadKit.mv hZ (hw d hd) (t d hd)
/-- **charAt(i) OF A LATIN-1 STRING**, i < n: the char -/
theorem chN {p : Program} {l : Launch} {e : Env} {R : Room} {s : State} {args : Array Value} {below : List Frame} {len W : Nat} {Z : State} {a0 : Array Value} {h : Heap} (hZ : Z.Warmed39 s.vm) (hw : ∀ d ∈ wordsChN, d.before a0 Z = true) {kI : Nat} (wi : (Jvm.Cond.instantiable ST kI).before a0 Z = true)
    {x t : Addr} {kb : ClassId} {cs : List Int32} {N2 z : Int32} {vs : List Value} {fm : Value} {i : Nat} {j : Int32} (E : RoadKit.Exa Z h x ST) (V : RoadKit.Fld Z h x ST "value" "[B" (.ref t)) (C : RoadKit.Fld Z h x ST "coder" "B" (.int 0)) (K : RoadKit.Arv Z h t kb .byte N2 vs (.int 0)) (hc : CodA cs 0 N2 vs) (hb : ∀ c ∈ cs, ¬ c < 0 ∧ ¬ (65535 : Int32) < c)
    (S : RoadKit.Sta Z h ST "COMPACT_STRINGS" "Z" (.int z)) (hz : ¬ z = 0) (F : RoadKit.Sta Z h "jdk/internal/util/Preconditions" "SIOOBE_FORMATTER" "Ljava/util/function/BiFunction;" fm) (rf : fm.isRef = true) (l2 : cs.length ≤ 4000) (hi : i < cs.length) (hj : j = Int32.ofNat i) (hfr : 4 ≤ R.frames) (hlo : W + 53 ≤ R.locals) :
    Back l R p e below s args (⟨"java/lang/String", "charAt", "(I)C"⟩ : MethodName) len W (fun P a => a = #[.ref x, .int j] ∧ P.U.heap = h ∧ P.cells + 0 ≤ R.cells ∧ P.slots + 0 ≤ R.slots)
      (fun P _ v B => ∃ L, (v = some (.int (cs.getD i 0)) ∧ L = [] ∧ B.U.heap = h) ∧ B.locs = P.locs ++ L ∧ B.cells = P.cells + 0 ∧ B.slots = P.slots + 0) := by
  subst hj
  intro m meth c P g ig mk a X hg hsize hdg hW hn hp'
  obtain ⟨rfl, rfl, r1, r2⟩ := hp'
  have al : Z.vm.Alike P.U.vm := hZ.alike.trans X.warmed.alike
  obtain ⟨A, hx⟩ := txt_of wi al E V C K hc hb l2
  obtain ⟨v, B, X', ⟨⟨hv, hh⟩, hl, hk, hs⟩, st⟩ := ChN.pays x t A cs.length (fun j => cs.getD j 0) z fm i (tabChN_of (movedChN hZ hw)) hfr hlo m meth c P g ig mk _ X hg hsize hdg hW hn ⟨r1, r2, rfl, hx, hi, sta_is al S, hz, sta_is al F, rf⟩
  exact ⟨v, B, X', ⟨[], ⟨hv, rfl, hh⟩, hl, hk, hs⟩, st⟩
/-- what backV says of its String, as the contracts of this text ask it: cs's low bytes, coder 0 -/
theorem codOf {cs : List Int32} {n : Nat} (hn : cs.length = n) (hb : ∀ c ∈ cs, ¬ 255 < c) : CodA cs 0 (Int32.ofNat n) ((cs.map lo8).map Value.int) := Or.inl ⟨rfl, by rw [hn], by simp [List.map_map, Function.comp_def], hb⟩
end StrChars.Road
end Jvm.Pilot.@@N@@
namespace Jvm.Pilot.@@N@@
open Jvm Jvm.ClassFile Sem Op Lib Jvm.Free Jvm.Stand Jvm.LawKit Jvm.RoadKit Bundle Jvm.Pilot.@@N@@.Jvm.D
abbrev sI (x : Int32) : Slot := .val (.int x)
abbrev sR (x : Addr) : Slot := .val (.ref x)
abbrev sJ (x : Int64) : Slot := .val (.long x)
abbrev sU : Slot := .unset
abbrev sS : Slot := .second
theorem own_m (i : Nat) {d : Jvm.Cond} (h : tables_1[i]? = some d) : d ∈ tables_1 := List.mem_of_getElem? h
def own_EL : List (String × Nat) := [("com/example/strict_tariff/stricttariff/pricing/RefusedReading", 20), ("com/example/strict_tariff/stricttariff/pricing/RefusedReading", 29), ("java/lang/String", 7)]
theorem own_ew {Z : State} {a0 : Array Value} (hw : ∀ d ∈ tables_1, d.before a0 Z = true) : EW Z a0 own_EL := (EW.cons (hw _ (own_m 64 rfl)) (by decide) (EW.cons (hw _ (own_m 139 rfl)) (by decide) (EW.cons (hw _ (own_m 248 rfl)) (by decide) EW.nil)))
theorem own_ws {Z : State} {a0 : Array Value} (hw : ∀ d ∈ tables_1, d.before a0 Z = true) : ∀ a ∈ Bundle.stringAtoms, a.before a0 Z = true := fun d hd => by
  simp only [Bundle.stringAtoms, List.mem_cons, List.not_mem_nil, or_false] at hd
  rcases hd with rfl | rfl | rfl | rfl | rfl | rfl | rfl
  · exact hw _ (own_m 3 rfl)
  · exact hw _ (own_m 2 rfl)
  · exact hw _ (own_m 19 rfl)
  · exact hw _ (own_m 29 rfl)
  · exact hw _ (own_m 27 rfl)
  · exact hw _ (own_m 65 rfl)
  · exact hw _ (own_m 66 rfl)
theorem own_pd0 : parseMethodDescriptor "([C)V" = some ⟨[(.array .char)], none⟩ := by decide +kernel
theorem own_pd1 : parseMethodDescriptor "()I" = some ⟨[], some .int⟩ := by decide +kernel
theorem own_pd2 : parseMethodDescriptor "(I)C" = some ⟨[.int], some .char⟩ := by decide +kernel
theorem own_lc {c : Int32} {cs : List Int32} (h : ¬ c < 0 ∧ ¬ (255 : Int32) < c) (t : ∀ d ∈ cs, ¬ d < 0 ∧ ¬ (255 : Int32) < d) : ∀ d ∈ c :: cs, ¬ d < 0 ∧ ¬ (255 : Int32) < d := fun d hd => by
  rcases List.mem_cons.mp hd with rfl | hd
  · exact h
  · exact t d hd
theorem own_ln : ∀ d ∈ ([] : List Int32), ¬ d < 0 ∧ ¬ (255 : Int32) < d := fun d hd => by cases hd
theorem own_up {cs : List Int32} (hp : ∀ d ∈ cs, ¬ d < 0 ∧ ¬ (255 : Int32) < d) : ∀ d ∈ cs, ¬ d < 0 ∧ ¬ (65535 : Int32) < d := fun d hd => ⟨(hp d hd).1, fun q => (hp d hd).2 (by simp only [Int32.lt_iff_toInt_lt, Int32.reduceToInt] at *; omega)⟩
section OwnStr
variable {p : Program} {l : Launch} {e : Env} {R : Room} {s : State} {m : MethodId} {args : Array Value} {below : List Frame} {meth : Method} {c : Code} {T : State} {locs : List Loc} {cells slots : Nat} {Z : State} {a0 : Array Value} {h : Heap} {own : String} {index kI W pc : Nat} {Ls : Array Slot} {rest : List Value} {KK : State → Outcome → Prop}
theorem own_subV : ∀ d ∈ StrChars.Road.words, d ∈ tables_1 := by decide +kernel
theorem own_newS (X : Stand p l e R s m args below meth c T locs cells slots) (hx : p.tables.exec = Jvm.exec) (hZ : Z.Warmed39 s.vm) (hown : s.vm.findClass own = some m.cls) (hw : ∀ d ∈ tables_1, d.before a0 Z = true)
    (w1 : (Cond.methodLink own index (⟨"java/lang/String", "<init>", "([C)V"⟩ : MethodName)).before a0 Z = true) (w2 : (Cond.instanceMethod (⟨"java/lang/String", "<init>", "([C)V"⟩ : MethodName)).before a0 Z = true) {bytes : ByteArray} {maxL : Nat} (w4 : (Cond.code (⟨"java/lang/String", "<init>", "([C)V"⟩ : MethodName) bytes maxL none).before a0 Z = true) (wi : (Cond.instantiable "java/lang/String" kI).before a0 Z = true)
    {x b : Addr} {kC : ClassId} {d v0 c0 : Value} {z N : Int32} {n n0 : Nat} (cs : List Int32) (hx0 : n0 ≤ x) (hh0 : n0 ≤ h.size) (E : Exa Z h x "java/lang/String") (V : Fld Z h x "java/lang/String" "value" "[B" v0) (C : Fld Z h x "java/lang/String" "coder" "B" c0) (K : Arv Z h b kC .char N (cs.map Value.int) d) (S : Sta Z h "java/lang/String" "COMPACT_STRINGS" "Z" (.int z)) (hz : ¬ z = 0)
    (hn : cs.length = n) (hN : N = Int32.ofNat n) (l0 : 0 < n) (l2 : n ≤ 4000) (hp : ∀ c ∈ cs, ¬ c < 0 ∧ ¬ (255 : Int32) < c) (hfr : 4 ≤ R.frames) (hlo : W + 65 ≤ R.locals) (hcc : cells + 1 ≤ R.cells) (hss : slots + n ≤ R.slots) (eT : T.heap = h) (hsz : Ls.size = c.maxLocals) (hW : (rest.map fun v => v.category).sum ≤ W) (hd : decode c.code pc = .ok (.invokespecial index, 3))
    (k : ∀ (T' : State) (L : List Loc) (t : Addr) (kb : ClassId), Stand p l e R s m args below meth c T' (locs ++ L) (cells + 1) (slots + n) → Fr n0 L → Keep h T'.heap [x] → Exa Z T'.heap x "java/lang/String" → Fld Z T'.heap x "java/lang/String" "coder" "B" (.int 0) → n0 ≤ t → h.size ≤ t → ¬ t = x → Fld Z T'.heap x "java/lang/String" "value" "[B" (.ref t) → Arv Z T'.heap t kb .byte N ((cs.map StrChars.lo8).map Value.int) (.int 0) → oG p e below KK (T'.setTop (mkF m (pc + 3) Ls rest))) :
    oG p e below KK (T.setTop (mkF m pc Ls (.ref b :: .ref x :: rest))) := by
  obtain ⟨v, _, ⟨T', L', k', n'⟩, -, X', ⟨L, hQ, h1, h2, h3⟩, st⟩ := X.specialBack hx (y := (⟨"java/lang/String", "<init>", "([C)V"⟩ : MethodName)) rfl hown (mvT hZ w1) (mvT hZ w2) (mvT hZ w4) (by decide) (StrChars.Road.backV (W := W) hZ (fun d hd => hw d (own_subV d hd)) wi (cs := cs) (bs := cs.map (fun c => c.toInt8.toInt32)) hx0 hh0 E V C K S hz hn hN l0 l2 hp rfl hfr hlo) (g := mkF m pc Ls (.ref b :: .ref x :: rest)) rfl hsz (Steps.refl _) (a := x) (argsL := [.ref b]) (rest := rest) (lenOf own_pd0 rfl) rfl (by show 2 * 0 + _ ≤ _; simpa using hW) hd (fun _ _ => ⟨rfl, eT, hcc, hss⟩)
  dsimp only [Pt.U, Pt.locs, Pt.cells, Pt.slots] at X' h1 h2 h3 st hQ
  subst h1 h2 h3
  obtain ⟨rfl, q1, q2, q3, q4, t, kb, q5, q6, q7, q8, q9⟩ := hQ
  exact own_via st (k T' L t kb X' q1 q2 q3 q4 q5 q6 q7 q8 q9)
theorem own_subL : ∀ d ∈ StrChars.Road.wordsLen, d ∈ tables_1 := by decide +kernel
theorem own_lens (X : Stand p l e R s m args below meth c T locs cells slots) (hx : p.tables.exec = Jvm.exec) (hZ : Z.Warmed39 s.vm) (hown : s.vm.findClass own = some m.cls) (hw : ∀ d ∈ tables_1, d.before a0 Z = true)
    (w1 : (Cond.methodLink own index (⟨"java/lang/String", "length", "()I"⟩ : MethodName)).before a0 Z = true) (w2 : (Cond.declares (⟨"java/lang/String", "length", "()I"⟩ : MethodName)).before a0 Z = true) (w5 : (Cond.selects "java/lang/String" (⟨"java/lang/String", "length", "()I"⟩ : MethodName) (⟨"java/lang/String", "length", "()I"⟩ : MethodName)).before a0 Z = true) (w6 : (Cond.instanceMethod (⟨"java/lang/String", "length", "()I"⟩ : MethodName)).before a0 Z = true) (wi : (Cond.instantiable "java/lang/String" kI).before a0 Z = true)
    {x t : Addr} {kb1 : ClassId} (cs : List Int32) {cd1 N1 : Int32} {vs1 : List Value} (E1 : Exa Z h x "java/lang/String") (V1 : Fld Z h x "java/lang/String" "value" "[B" (.ref t)) (C1 : Fld Z h x "java/lang/String" "coder" "B" (.int cd1)) (K1 : Arv Z h t kb1 .byte N1 vs1 (.int 0)) (hc1 : StrChars.Road.CodA cs cd1 N1 vs1) (hb1 : ∀ c ∈ cs, ¬ c < 0 ∧ ¬ (65535 : Int32) < c) (l1 : cs.length ≤ 4000)
    {z : Int32} (S : Sta Z h "java/lang/String" "COMPACT_STRINGS" "Z" (.int z)) (hz : ¬ z = 0) (hfr : 2 ≤ R.frames) (hlo : W + 25 ≤ R.locals) (hcc : cells ≤ R.cells) (hss : slots ≤ R.slots) (eT : T.heap = h) (hsz : Ls.size = c.maxLocals) (hW : (rest.map fun v => v.category).sum ≤ W) (hd : decode c.code pc = .ok (.invokevirtual index, 3))
    (k : ∀ (T' : State), Stand p l e R s m args below meth c T' locs cells slots → T'.heap = h → oG p e below KK (T'.setTop (mkF m (pc + 3) Ls (.int (Int32.ofNat cs.length) :: rest)))) :
    oG p e below KK (T.setTop (mkF m pc Ls (.ref x :: rest))) := by
  obtain ⟨cq, kq, qa, qb, qc⟩ := isOf hZ eT E1
  obtain ⟨v, _, ⟨T', L', k', n'⟩, -, X', ⟨L, hQ, h1, h2, h3⟩, st⟩ := X.virtualBack hx (y := (⟨"java/lang/String", "length", "()I"⟩ : MethodName)) (z := (⟨"java/lang/String", "length", "()I"⟩ : MethodName)) hown (mvT hZ w1) (mvT hZ w2) (notFace_of_selects (args := #[]) (mvT hZ w5)) (mvT hZ w5) (mvT hZ w6) (by decide) (StrChars.Road.lenW (W := W) hZ (fun d hd => hw d (own_subL d hd)) wi E1 V1 C1 K1 hc1 hb1 S hz l1 hfr hlo) qa qc (g := mkF m pc Ls (.ref x :: rest)) rfl hsz (Steps.refl _) (argsL := []) (rest := rest) (lenOf own_pd1 rfl) rfl (by show 2 * 0 + _ ≤ _; simpa using hW) hd (fun _ _ => ⟨rfl, eT, hcc, hss⟩)
  dsimp only [Pt.U, Pt.locs, Pt.cells, Pt.slots] at X' h1 h2 h3 st hQ
  obtain ⟨rfl, rfl, hh⟩ := hQ
  rw [List.append_nil] at h1
  subst h1 h2 h3
  exact own_via st (k T' X' hh)
theorem own_subC : ∀ d ∈ StrChars.Road.wordsChN, d ∈ tables_1 := by decide +kernel
theorem own_chs (X : Stand p l e R s m args below meth c T locs cells slots) (hx : p.tables.exec = Jvm.exec) (hZ : Z.Warmed39 s.vm) (hown : s.vm.findClass own = some m.cls) (hw : ∀ d ∈ tables_1, d.before a0 Z = true)
    (w1 : (Cond.methodLink own index (⟨"java/lang/String", "charAt", "(I)C"⟩ : MethodName)).before a0 Z = true) (w2 : (Cond.declares (⟨"java/lang/String", "charAt", "(I)C"⟩ : MethodName)).before a0 Z = true) (w5 : (Cond.selects "java/lang/String" (⟨"java/lang/String", "charAt", "(I)C"⟩ : MethodName) (⟨"java/lang/String", "charAt", "(I)C"⟩ : MethodName)).before a0 Z = true) (w6 : (Cond.instanceMethod (⟨"java/lang/String", "charAt", "(I)C"⟩ : MethodName)).before a0 Z = true) (wi : (Cond.instantiable "java/lang/String" kI).before a0 Z = true)
    {x t : Addr} {kb : ClassId} (cs : List Int32) {N2 z : Int32} {vs : List Value} {fm : Value} (i : Nat) {j : Int32} (E1 : Exa Z h x "java/lang/String") (V1 : Fld Z h x "java/lang/String" "value" "[B" (.ref t)) (C1 : Fld Z h x "java/lang/String" "coder" "B" (.int 0)) (K1 : Arv Z h t kb .byte N2 vs (.int 0)) (hc1 : StrChars.Road.CodA cs 0 N2 vs) (hb1 : ∀ c ∈ cs, ¬ c < 0 ∧ ¬ (65535 : Int32) < c)
    (S : Sta Z h "java/lang/String" "COMPACT_STRINGS" "Z" (.int z)) (hz : ¬ z = 0) (F : Sta Z h "jdk/internal/util/Preconditions" "SIOOBE_FORMATTER" "Ljava/util/function/BiFunction;" fm) (rf : fm.isRef = true) (l1 : cs.length ≤ 4000) (hi : i < cs.length) (hj : j = Int32.ofNat i) (hfr : 4 ≤ R.frames) (hlo : W + 53 ≤ R.locals) (hcc : cells ≤ R.cells) (hss : slots ≤ R.slots) (eT : T.heap = h) (hsz : Ls.size = c.maxLocals) (hW : (rest.map fun v => v.category).sum ≤ W) (hd : decode c.code pc = .ok (.invokevirtual index, 3))
    (k : ∀ (T' : State), Stand p l e R s m args below meth c T' locs cells slots → T'.heap = h → oG p e below KK (T'.setTop (mkF m (pc + 3) Ls (.int (cs.getD i 0) :: rest)))) :
    oG p e below KK (T.setTop (mkF m pc Ls (.int j :: .ref x :: rest))) := by
  obtain ⟨cq, kq, qa, qb, qc⟩ := isOf hZ eT E1
  obtain ⟨v, _, ⟨T', L', k', n'⟩, -, X', ⟨L, hQ, h1, h2, h3⟩, st⟩ := X.virtualBack hx (y := (⟨"java/lang/String", "charAt", "(I)C"⟩ : MethodName)) (z := (⟨"java/lang/String", "charAt", "(I)C"⟩ : MethodName)) hown (mvT hZ w1) (mvT hZ w2) (notFace_of_selects (args := #[]) (mvT hZ w5)) (mvT hZ w5) (mvT hZ w6) (by decide) (StrChars.Road.chN (W := W) hZ (fun d hd => hw d (own_subC d hd)) wi E1 V1 C1 K1 hc1 hb1 S hz F rf l1 hi hj hfr hlo) qa qc (g := mkF m pc Ls (.int j :: .ref x :: rest)) rfl hsz (Steps.refl _) (argsL := [.int j]) (rest := rest) (lenOf own_pd2 rfl) rfl (by show 2 * 0 + _ ≤ _; simpa using hW) hd (fun _ _ => ⟨rfl, eT, hcc, hss⟩)
  dsimp only [Pt.U, Pt.locs, Pt.cells, Pt.slots] at X' h1 h2 h3 st hQ
  obtain ⟨rfl, rfl, hh⟩ := hQ
  rw [List.append_nil] at h1
  subst h1 h2 h3
  exact own_via st (k T' X' hh)
end OwnStr
open Jvm.Free.SBG in
def own_T (Z : State) (h : Heap) (st d1 d2 : Addr) (D1 D2 : Cell) : Prop := Tbl { Z with heap := h } "DigitOnes" st d1 D1 ∧ Tbl { Z with heap := h } "DigitTens" st d2 D2 ∧ Ones D1 ∧ Tens D2
theorem own_tat {s : State} {n : String} {st d : Addr} {D : Cell} (h : Jvm.Free.SBG.Tbl s n st d D) : s.heap[d]? = some D := by
  obtain ⟨_, _, _, _, _, _, _, _, _, _, _, _, h, _⟩ := h; exact h
theorem own_tst {s : State} {n : String} {st d : Addr} {D : Cell} (h : Jvm.Free.SBG.Tbl s n st d D) : ∃ c, s.heap[st]? = some c := by
  obtain ⟨_, _, _, _, c, _, _, _, _, h, _⟩ := h; exact ⟨c, h⟩
theorem own_T_keep {Z : State} {h h' : Heap} {st d1 d2 : Addr} {D1 D2 : Cell} {ws : List Addr} (T : own_T Z h st d1 d2 D1 D2) (K : Keep h h' ws) (q0 : st ∉ ws) (q1 : d1 ∉ ws) (q2 : d2 ∉ ws) : own_T Z h' st d1 d2 D1 D2 :=
  ⟨T.1.move (U := { Z with heap := h }) (U' := { Z with heap := h' }) (Vm.Alike.refl _) (fun _ q => K.2.1 _ _ q q0) (K.2.1 _ _ (own_tat T.1) q1), T.2.1.move (U := { Z with heap := h }) (U' := { Z with heap := h' }) (Vm.Alike.refl _) (fun _ q => K.2.1 _ _ q q0) (K.2.1 _ _ (own_tat T.2.1) q2), T.2.2.1, T.2.2.2⟩
theorem own_eq_iv {args : Array Value} {s first : State} {o : Option Outcome} {idx : List Nat} {t u : Term} {k : Int32} (hu : u.eval args first o idx s = some (.int k)) (h : (Cond.eq t u).value args first o s idx = some true) : t.eval args first o idx s = some (.int k) := by
  obtain ⟨x, y, h1, h2, h3, h4⟩ := cmp_v (r := true) (Or.inl h)
  have e2 : y = .int k := (Option.some.inj (h2.symm.trans hu))
  subst e2
  obtain ⟨z, rfl⟩ := h4
  have q := h
  simp only [Cond.value, h1, hu] at q
  have : z = k := by simpa using q
  rw [h1, this]
theorem own_bytesC {a : Array Value} {s : State} {name : String} {rhs : Term} {F : Nat → Nat} (hx : (Cond.exactly (Jvm.Free.SBG.Tof name) "[B").before a s = true) (hl : (Cond.eq (.length (Jvm.Free.SBG.Tof name)) (.int 100)).before a s = true) (hF : ∀ r, r < 100 → F r < 128) (hrhs : ∀ r, r < 100 → rhs.eval a s none [r] s = some (.int (Int32.ofNat (F r))))
    (hw : (Cond.all (Jvm.Free.SBG.Tof name) (.eq (.elem (Jvm.Free.SBG.Tof name) (.index 0)) rhs)).before a s = true) : (Jvm.Free.SBG.bytesC (Jvm.Free.SBG.Tof name)).before a s = true := by
  obtain ⟨d, cB, D, kB, hev, -, -, -, -, -, -⟩ := Cond.exactly_spec hx
  have hevAll : ∀ idx, (Jvm.Free.SBG.Tof name).eval a s none idx s = some (.ref d) := fun idx => by
    have : (Jvm.Free.SBG.Tof name).eval a s none idx s = (Jvm.Free.SBG.Tof name).eval a s none [] s := by simp only [Jvm.Free.SBG.Tof, Term.eval]
    rw [this]; exact hev
  obtain ⟨d', D', hev', harr, hlen⟩ := Term.length_spec (Cond.eq_int hl rfl)
  cases hev.symm.trans hev'
  have h31 := Jvm.Free.SBG.length_lt hev harr (Cond.eq_int hl rfl)
  have hsz : D'.slots.size = 100 := by
    have e : (Term.length (Jvm.Free.SBG.Tof name)).eval a s none [] s = some (.int D'.slots.size.toInt32) := by simp [Term.eval, hev, harr, h31]
    have q := congrArg Int32.toInt (Value.int.inj (Option.some.inj (e.symm.trans (Cond.eq_int hl rfl))))
    rw [len_toInt h31] at q
    have : (100 : Int32).toInt = 100 := rfl
    omega
  have hv : (Jvm.Free.SBG.bytesC (Jvm.Free.SBG.Tof name)).value a s none s [] = some true := Cond.all_intro (hevAll []) harr fun r hr => by
    have h := Cond.all_elim (hevAll []) harr (Cond.before_iff.mp hw) r hr
    have e := own_eq_iv (hrhs r (by omega)) h
    have k : ∀ x, x < 128 → (-128 : Int32) ≤ Int32.ofNat x ∧ Int32.ofNat x ≤ 127 := by decide +kernel
    have q := k (F r) (hF r (by omega))
    have v1 := Cond.le_ints (a := .int (-128)) (x := -128) rfl e
    have v2 := Cond.le_ints (b := .int 127) (y := 127) e rfl
    rw [decide_eq_true q.1] at v1
    rw [decide_eq_true q.2] at v2
    exact and_i v1 v2
  exact Cond.before_iff.mpr hv
theorem own_T0 {a : Array Value} {s : State} (wi : (Cond.initialized "java/lang/Integer").before a s = true) (wa : (Cond.arrayClass .byte).before a s = true)
    (l1 : (Cond.laysStatic "java/lang/Integer" "DigitOnes" "[B").before a s = true) (e1 : (Cond.exactly (Jvm.Free.SBG.Tof "DigitOnes") "[B").before a s = true) (n1 : (Cond.eq (.length (Jvm.Free.SBG.Tof "DigitOnes")) (.int 100)).before a s = true) (o1 : Jvm.Free.SBG.onesW.before a s = true)
    (l2 : (Cond.laysStatic "java/lang/Integer" "DigitTens" "[B").before a s = true) (e2 : (Cond.exactly (Jvm.Free.SBG.Tof "DigitTens") "[B").before a s = true) (n2 : (Cond.eq (.length (Jvm.Free.SBG.Tof "DigitTens")) (.int 100)).before a s = true) (o2 : Jvm.Free.SBG.tensW.before a s = true) :
    ∃ (st d1 d2 : Addr) (D1 D2 : Cell), own_T s s.heap st d1 d2 D1 D2 ∧ st < s.heap.size ∧ d1 < s.heap.size ∧ d2 < s.heap.size := by
  have b1 := own_bytesC (F := fun r => 48 + r % 10) e1 n1 (fun r _ => by show 48 + r % 10 < 128; omega) (fun r hr => by rw [← Jvm.Free.SBG.ones_num r hr]; rfl) o1
  have b2 := own_bytesC (F := fun r => 48 + r / 10) e2 n2 (fun r hr => by show 48 + r / 10 < 128; omega) (fun r hr => by rw [← Jvm.Free.SBG.tens_num r hr]; rfl) o2
  obtain ⟨c, k, st, d1, D1, h1, h2, h3, T1, O1⟩ := Jvm.Free.SBG.ones_of_words (fun w hw => by
    simp only [Jvm.Free.SBG.tblW, List.mem_cons, List.not_mem_nil, or_false] at hw
    rcases hw with rfl | rfl | rfl | rfl
    · exact l1
    · exact e1
    · exact n1
    · exact b1) o1 wi wa
  obtain ⟨c', k', st', d2, D2, h1', h2', h3', T2, O2⟩ := Jvm.Free.SBG.tens_of_words (fun w hw => by
    simp only [Jvm.Free.SBG.tblW, List.mem_cons, List.not_mem_nil, or_false] at hw
    rcases hw with rfl | rfl | rfl | rfl
    · exact l2
    · exact e2
    · exact n2
    · exact b2) o2 wi wa
  cases h1.symm.trans h1'
  cases h2.symm.trans h2'
  cases h3.symm.trans h3'
  obtain ⟨cs, hs⟩ := own_tst T1
  exact ⟨st, d1, d2, D1, D2, ⟨T1, T2, O1, O2⟩, (Array.getElem?_eq_some_iff.mp hs).1, (Array.getElem?_eq_some_iff.mp (own_tat T1)).1, (Array.getElem?_eq_some_iff.mp (own_tat T2)).1⟩
theorem own_gct {Z : State} {a0 : Array Value} (hw : ∀ d ∈ tables_1, d.before a0 Z = true) : Jvm.Free.SBG.GetCharsL.tab.before a0 Z = true := by
  simp only [Jvm.Free.SBG.GetCharsL.tab, Cond.before_and, Bool.and_eq_true]
  exact ⟨(hw _ (own_m 135 rfl)), (hw _ (own_m 137 rfl)), (hw _ (own_m 247 rfl)), (hw _ (own_m 136 rfl)), (hw _ (own_m 246 rfl))⟩
theorem own_sst {Z : State} {a0 : Array Value} (hw : ∀ d ∈ tables_1, d.before a0 Z = true) : Jvm.Free.SBG.StrSizeL.tab.before a0 Z = true := by
  simp only [Jvm.Free.SBG.StrSizeL.tab, Cond.before_and, Bool.and_eq_true]
  exact ⟨(hw _ (own_m 126 rfl)), (hw _ (own_m 127 rfl)), (hw _ (own_m 228 rfl))⟩
theorem own_pd3 : parseMethodDescriptor "(J)I" = some ⟨[.long], some .int⟩ := by decide +kernel
theorem own_pd4 : parseMethodDescriptor "(JI[B)I" = some ⟨[.long, .int, (.array .byte)], some .int⟩ := by decide +kernel
theorem own_dig {x : Int64} {n idx : Nat} {da ist d1 d2 : Addr} {A D1 D2 : Cell} (h1 : Jvm.Free.SBG.Ones D1) (h2 : Jvm.Free.SBG.Tens D2) (hn : n ≤ 2 ^ 63) (hroom : Jvm.Free.SBG.digitsL n + Jvm.Free.SBG.GetCharsL.sgnL x ≤ idx) (hidx : idx ≤ A.slots.size) :
    (∀ t, t < Jvm.Free.SBG.digitsL n → (Jvm.Free.SBG.GetCharsL.outCell ⟨x, n, idx, da, A, ist, d1, D1, d2, D2⟩).slots[idx - 1 - t]? = some (.int (Int32.ofNat (48 + n / 10 ^ t % 10)))) ∧ (x < 0 → (Jvm.Free.SBG.GetCharsL.outCell ⟨x, n, idx, da, A, ist, d1, D1, d2, D2⟩).slots[idx - Jvm.Free.SBG.digitsL n - 1]? = some (.int 45)) ∧
    (∀ j, j < idx - (Jvm.Free.SBG.digitsL n + Jvm.Free.SBG.GetCharsL.sgnL x) → (Jvm.Free.SBG.GetCharsL.outCell ⟨x, n, idx, da, A, ist, d1, D1, d2, D2⟩).slots[j]? = A.slots[j]?) := by
  obtain ⟨hA, hB⟩ := Jvm.Free.SBG.digLoop_at h1 h2 10 A n idx (by have e : (100 : Nat) ^ 10 = 100000000000000000000 := (by decide); omega) (show Jvm.Free.SBG.digitsL n ≤ idx by omega) hidx
  obtain ⟨-, -, hsz, hpos⟩ := Jvm.Free.SBG.digLoop_facts D1 D2 10 A n idx
  have hpos' : (Jvm.Free.SBG.digLoop D1 D2 10 A n idx).2 = idx - Jvm.Free.SBG.digitsL n := hpos
  have hp := (Jvm.Free.SBG.digitsL_pos n).1
  unfold Jvm.Free.SBG.GetCharsL.outCell
  by_cases hx : x < 0
  · have hs : Jvm.Free.SBG.GetCharsL.sgnL x = 1 := by simp [Jvm.Free.SBG.GetCharsL.sgnL, hx]
    simp only [hx, if_true, hpos']
    refine ⟨fun t ht => ?_, fun _ => ?_, fun j hj => ?_⟩
    · rw [Jvm.Free.SBG.dgPutNe _ (by omega)]; exact hA t ht
    · rw [Jvm.Free.SBG.dgPutAt _ (by rw [hsz]; omega)]; rfl
    · rw [Jvm.Free.SBG.dgPutNe _ (by omega)]; exact hB j (Or.inl (by show j < idx - Jvm.Free.SBG.digitsL n; omega))
  · have hs : Jvm.Free.SBG.GetCharsL.sgnL x = 0 := by simp [Jvm.Free.SBG.GetCharsL.sgnL, hx]
    simp only [hx, if_false]
    exact ⟨hA, fun q => absurd q (by simp), fun j hj => hB j (Or.inl (by show j < idx - Jvm.Free.SBG.digitsL n; omega))⟩
section OwnNum
variable {p : Program} {l : Launch} {e : Env} {R : Room} {s : State} {m : MethodId} {args : Array Value} {below : List Frame} {meth : Method} {c : Code} {T : State} {locs : List Loc} {cells slots : Nat} {Z : State} {a0 : Array Value} {h : Heap} {own : String} {index kI W pc : Nat} {Ls : Array Slot} {rest : List Value} {KK : State → Outcome → Prop}
theorem own_ssz (X : Stand p l e R s m args below meth c T locs cells slots) (hx : p.tables.exec = Jvm.exec) (hZ : Z.Warmed39 s.vm) (hown : s.vm.findClass own = some m.cls) (hw : ∀ d ∈ tables_1, d.before a0 Z = true)
    (w1 : (Cond.methodLink own index Jvm.Free.SBG.StrSizeL.ssN).before a0 Z = true) (w2 : (Cond.static Jvm.Free.SBG.StrSizeL.ssN).before a0 Z = true) (w3 : (Cond.initialized "java/lang/Long").before a0 Z = true)
    {x : Int64} {n : Nat} (hn : n ≤ 2 ^ 63) (hneg : (if x < 0 then x else -x) = Jvm.Free.SBG.negL n) (hfr : 2 ≤ R.frames) (hlo : W + 57 ≤ R.locals) (hcc : cells ≤ R.cells) (hss : slots ≤ R.slots) (eT : T.heap = h) (hsz : Ls.size = c.maxLocals) (hW : (rest.map fun v => v.category).sum ≤ W) (hd : decode c.code pc = .ok (.invokestatic index, 3))
    (k : ∀ (T' : State), Stand p l e R s m args below meth c T' locs cells slots → T'.heap = h → oG p e below KK (T'.setTop (mkF m (pc + 3) Ls (.int (Int32.ofNat (Jvm.Free.SBG.digitsL n + Jvm.Free.SBG.GetCharsL.sgnL x)) :: rest)))) :
    oG p e below KK (T.setTop (mkF m pc Ls (.long x :: rest))) := by
  have wt := own_sst hw
  have w4 : (Cond.code Jvm.Free.SBG.StrSizeL.ssN Jvm.Free.SBG.StrSizeL.ssB 6 (some .int)).before a0 Z = true := by
    have q := wt; simp only [Jvm.Free.SBG.StrSizeL.tab, Cond.before_and, Bool.and_eq_true] at q; exact q.1
  have wts : Jvm.Free.SBG.StrSizeL.tab.before args s = true := by
    have q := wt; simp only [Jvm.Free.SBG.StrSizeL.tab, Cond.before_and, Bool.and_eq_true] at q ⊢; exact ⟨mvT hZ q.1, mvT hZ q.2.1, mvT hZ q.2.2⟩
  obtain ⟨v, _, ⟨T', L', k', n'⟩, -, X', ⟨⟨q1, q2, q3, q4⟩, hv⟩, st⟩ := Jvm.LawKit.callS X hx (y := Jvm.Free.SBG.StrSizeL.ssN) hown (mvT hZ w1) (mvT hZ w2) (mvT hZ w3) (mvT hZ w4) (by decide) (Jvm.Free.SBG.StrSizeL.pays (W := W) hfr hlo wts (mvT hZ w3)) (g := mkF m pc Ls (.long x :: rest)) rfl hsz (argsL := [.long x]) (rest := rest) (lenOf own_pd3 rfl) rfl (by show 2 * 0 + _ ≤ _; simpa using hW) hd (fun _ _ => ⟨hcc, hss, x, rfl⟩)
  dsimp only [Pt.U, Pt.locs, Pt.cells, Pt.slots] at X' q1 q2 q3 q4 st
  have e := hv x rfl
  rw [Jvm.Free.SBG.strSizeOfL_eq hn hneg] at e
  subst e q2 q3 q4
  exact og st (k T' X' (q1.trans eT))
theorem own_gch (X : Stand p l e R s m args below meth c T locs cells slots) (hx : p.tables.exec = Jvm.exec) (hZ : Z.Warmed39 s.vm) (hown : s.vm.findClass own = some m.cls) (hw : ∀ d ∈ tables_1, d.before a0 Z = true)
    (w1 : (Cond.methodLink own index Jvm.Free.SBG.GetCharsL.gcN).before a0 Z = true) (w2 : (Cond.static Jvm.Free.SBG.GetCharsL.gcN).before a0 Z = true) (w3 : (Cond.initialized "java/lang/Long").before a0 Z = true)
    {x : Int64} {n idx : Nat} {ix cap : Int32} {da ist d1 d2 : Addr} {D1 D2 : Cell} {kd : ClassId} {va : List Value} (hn : n ≤ 2 ^ 63) (hneg : (if x < 0 then x else -x) = Jvm.Free.SBG.negL n) (hix : Int32.ofNat idx = ix) (Kd : Arv Z h da kd .byte cap va (.int 0)) (T0 : own_T Z h ist d1 d2 D1 D2) (n1 : da ≠ ist) (n2 : da ≠ d1) (n3 : da ≠ d2) (hidx : idx ≤ cap.toNatClampNeg) (hrm : Jvm.Free.SBG.digitsL n + Jvm.Free.SBG.GetCharsL.sgnL x ≤ idx) (hvl : va.length = cap.toNatClampNeg) {n0 : Nat} (ge : n0 ≤ da)
    (hfr : 2 ≤ R.frames) (hlo : W + 102 ≤ R.locals) (hcc : cells ≤ R.cells) (hss : slots ≤ R.slots) (eT : T.heap = h) (hsz : Ls.size = c.maxLocals) (hW : (rest.map fun v => v.category).sum ≤ W) (hd : decode c.code pc = .ok (.invokestatic index, 3))
    (k : ∀ (T' : State) (L : List Loc) (va' : List Value), Stand p l e R s m args below meth c T' (locs ++ L) cells slots → Fr n0 L → Keep h T'.heap [da] → Arv Z T'.heap da kd .byte cap va' (.int 0) → va'.length = cap.toNatClampNeg → (∀ t, t < Jvm.Free.SBG.digitsL n → va'.getD (idx - 1 - t) (.int 0) = .int (Int32.ofNat (48 + n / 10 ^ t % 10))) → (x < 0 → va'.getD (idx - Jvm.Free.SBG.digitsL n - 1) (.int 0) = .int 45) → (∀ j, j < idx - (Jvm.Free.SBG.digitsL n + Jvm.Free.SBG.GetCharsL.sgnL x) → va'.getD j (.int 0) = va.getD j (.int 0)) →
      oG p e below KK (T'.setTop (mkF m (pc + 3) Ls (.int (Int32.ofNat (idx - (Jvm.Free.SBG.digitsL n + Jvm.Free.SBG.GetCharsL.sgnL x))) :: rest)))) :
    oG p e below KK (T.setTop (mkF m pc Ls (.ref da :: .int ix :: .long x :: rest))) := by
  subst hix
  have wt := own_gct hw
  have w4 : (Cond.code Jvm.Free.SBG.GetCharsL.gcN Jvm.Free.SBG.GetCharsL.gcB 11 (some .int)).before a0 Z = true := by
    have q := wt; simp only [Jvm.Free.SBG.GetCharsL.tab, Cond.before_and, Bool.and_eq_true] at q; exact q.1
  have wts : Jvm.Free.SBG.GetCharsL.tab.before args s = true := by
    have q := wt; simp only [Jvm.Free.SBG.GetCharsL.tab, Cond.before_and, Bool.and_eq_true] at q ⊢; exact ⟨mvT hZ q.1, mvT hZ q.2.1, mvT hZ q.2.2.1, mvT hZ q.2.2.2.1, mvT hZ q.2.2.2.2⟩
  obtain ⟨A, hA, hk, hsz', hng, hH, hG⟩ := Kd
  have h31 : A.slots.size < 2 ^ 31 := by
    rw [hsz']; have := Int32.toInt_lt cap; simp only [Int32.toNatClampNeg]; omega
  obtain ⟨t1, t2, o1, o2⟩ := T0
  have hP : Jvm.Free.SBG.GetCharsL.P ⟨x, n, idx, da, A, ist, d1, D1, d2, D2⟩ #[.long x, .int (Int32.ofNat idx), .ref da] { Z with heap := h } := ⟨rfl, hA.1, hA.2.1, hA.2.2, h31, by rw [hsz']; exact hidx, hrm, hn, hneg, t1, t2, n1, n2, n3⟩
  obtain ⟨v, vm1, ⟨T', L', k', n'⟩, hW1, X', ⟨rfl, q1, q2, q3, q4, q5, L, q6, q7⟩, st⟩ := Jvm.LawKit.callS X hx (y := Jvm.Free.SBG.GetCharsL.gcN) hown (mvT hZ w1) (mvT hZ w2) (mvT hZ w3) (mvT hZ w4) (by decide) (Jvm.Free.SBG.GetCharsL.pays ⟨x, n, idx, da, A, ist, d1, D1, d2, D2⟩ W wts (mvT hZ w3) hfr hlo) (g := mkF m pc Ls (.ref da :: .int (Int32.ofNat idx) :: .long x :: rest)) rfl hsz (argsL := [.long x, .int (Int32.ofNat idx), .ref da]) (rest := rest) (lenOf own_pd4 rfl) rfl (by show 2 * 0 + _ ≤ _; simpa using hW) hd (fun vm1 hW1 => ⟨rfl, hcc, hss, Jvm.Free.SBG.GetCharsL.P.move (U := { Z with heap := h }) (U' := T.setVm vm1) (hZ.alike.trans hW1.alike) eT hP⟩)
  dsimp only [Pt.U, Pt.locs, Pt.cells, Pt.slots] at X' q1 q2 q3 q4 q5 q6 st
  subst q2 q3 q6
  have q4' : T'.heap.size = h.size := by rw [q4]; exact congrArg Array.size eT
  have q5' : ∀ (y : Addr) (cy : Cell), y ≠ da → h[y]? = some cy → T'.heap[y]? = some cy := fun y cy hy hc => q5 y cy hy (by rw [show (T.setVm vm1).heap = h from eT]; exact hc)
  obtain ⟨f1, f2, f3, f4, f5⟩ := Jvm.Free.SBG.GetCharsL.outCell_facts ⟨x, n, idx, da, A, ist, d1, D1, d2, D2⟩ hn hrm (fun i hi => by rw [Array.getD_eq_getD_getElem?, hH i hi]; exact hG i hi)
  obtain ⟨g1, g2, g3⟩ := own_dig (A := A) o1 o2 hn hrm (by rw [hsz']; exact hidx) (ist := ist) (da := da) (d1 := d1) (d2 := d2)
  generalize Jvm.Free.SBG.GetCharsL.outCell ⟨x, n, idx, da, A, ist, d1, D1, d2, D2⟩ = O at q1 f1 f2 f3 f4 f5 g1 g2 g3
  have hO : ∀ i, i < O.slots.size → O.slots[i]? = some (O.slots.toList.getD i (.int 0)) := fun i hi => by
    rw [List.getD_eq_getElem?_getD, Array.getElem?_toList, Array.getElem?_eq_getElem hi]; rfl
  have hsO : O.slots.size = cap.toNatClampNeg := f3.trans hsz'
  refine og st (k T' L O.slots.toList X' (fun y hy => by rw [q7 y hy]; exact ge) ⟨by omega, fun y cy hc hy => q5' y cy (fun q => hy (by rw [q]; exact List.mem_singleton.mpr rfl)) hc, fun y cy hc => ?_⟩ ⟨O, ⟨q1, ?_, by rw [f2]; exact hA.2.2⟩, f1.trans hk, hsO, hng, hO, fun i hi => ?_⟩ (by rw [Array.length_toList]; exact hsO) (fun t ht => ?_) (fun hx0 => ?_) (fun j hj => ?_))
  · by_cases hy : y = da
    · subst hy; cases hc.symm.trans hA.1; exact ⟨O, q1, f1, f2, f3⟩
    · exact ⟨cy, q5' y cy hy hc, rfl, rfl, rfl⟩
  · obtain ⟨a1, kA, a2, comp, a3⟩ := hA.2.1
    exact ⟨by rw [f2]; exact a1, kA, by rw [f1]; exact a2, comp, a3⟩
  · have := f4 i hi; rw [Array.getD_eq_getD_getElem?, hO i hi] at this; exact this
  · have := hO (idx - 1 - t) (by have hp := (Jvm.Free.SBG.digitsL_pos n).1; omega)
    rw [g1 t ht] at this; exact (Option.some.inj this).symm
  · have := hO (idx - Jvm.Free.SBG.digitsL n - 1) (by have hp := (Jvm.Free.SBG.digitsL_pos n).1; omega)
    rw [g2 hx0] at this; exact (Option.some.inj this).symm
  · have hj' : j < O.slots.size := by omega
    have a1 := hO j hj'
    rw [g3 j hj, hH j (by omega)] at a1
    exact (Option.some.inj a1).symm
end OwnNum
def own_hs (vs : List Value) (cs : List Int32) : Prop := ∀ i, i < cs.length → vs.getD i (.int 0) = .int (StrChars.lo8 (cs.getD i 0))
def own_subv (vs : List Value) (f k : Nat) : List Value := (List.range k).map fun i => vs.getD (f + i) (.int 0)
def own_grow (va : List Value) : List Value := own_subv va 0 16 ++ List.replicate 18 (.int 0)
def own_ins (va us : List Value) (d : Nat) : List Value := va.take d ++ us ++ va.drop (d + us.length)
def own_lb (cs : List Int32) : List Value := cs.map fun c => Value.int (StrChars.lo8 c)
theorem own_subv_len (vs : List Value) (f k : Nat) : (own_subv vs f k).length = k := by simp [own_subv]
theorem own_subv_get {vs : List Value} {f k i : Nat} (h : i < k) (d : Value) : (own_subv vs f k).getD i d = vs.getD (f + i) (.int 0) := by
  simp [own_subv, List.getD_eq_getElem?_getD, h]
theorem own_subv_all {vs : List Value} {n : Nat} (h : vs.length = n) : vs = own_subv vs 0 n := by
  subst h
  apply List.ext_getElem
  · simp [own_subv]
  · intro k h1 h2; simp [own_subv, List.getD_eq_getElem?_getD, h1]
theorem own_grow_len (va : List Value) : (own_grow va).length = 34 := by simp [own_grow, own_subv]
theorem own_grow_hs {va : List Value} {cs : List Int32} (h : own_hs va cs) (hl : cs.length ≤ 16) : own_hs (own_grow va) cs := fun i hi => by
  have e : (own_grow va).getD i (.int 0) = (own_subv va 0 16).getD i (.int 0) := by
    unfold own_grow
    rw [List.getD_eq_getElem?_getD, List.getElem?_append_left (by rw [own_subv_len]; omega), ← List.getD_eq_getElem?_getD]
  rw [e, own_subv_get (by omega), Nat.zero_add]; exact h i hi
theorem own_ins_len {va us : List Value} {d : Nat} (h : d + us.length ≤ va.length) : (own_ins va us d).length = va.length := by simp [own_ins]; omega
theorem own_lb_len (cs : List Int32) : (own_lb cs).length = cs.length := by simp [own_lb]
theorem own_ins_hs {va : List Value} {cs ds : List Int32} (h : own_hs va cs) (hl : cs.length + ds.length ≤ va.length) : own_hs (own_ins va (own_lb ds) cs.length) (cs ++ ds) := fun i hi => by
  rw [List.length_append] at hi
  have ht : (va.take cs.length).length = cs.length := by rw [List.length_take]; omega
  by_cases q : i < cs.length
  · have e1 : (own_ins va (own_lb ds) cs.length).getD i (.int 0) = va.getD i (.int 0) := by
      unfold own_ins
      rw [List.getD_eq_getElem?_getD, List.append_assoc, List.getElem?_append_left (by omega), List.getElem?_take_of_lt q, ← List.getD_eq_getElem?_getD]
    have e2 : (cs ++ ds).getD i 0 = cs.getD i 0 := by rw [List.getD_eq_getElem?_getD, List.getElem?_append_left q, ← List.getD_eq_getElem?_getD]
    rw [e1, e2]; exact h i q
  · have hd : i - cs.length < ds.length := by omega
    have e1 : (own_ins va (own_lb ds) cs.length).getD i (.int 0) = (own_lb ds).getD (i - cs.length) (.int 0) := by
      unfold own_ins
      rw [List.getD_eq_getElem?_getD, List.append_assoc, List.getElem?_append_right (by omega), ht, List.getElem?_append_left (by rw [own_lb_len]; exact hd), ← List.getD_eq_getElem?_getD]
    have e2 : (cs ++ ds).getD i 0 = ds.getD (i - cs.length) 0 := by rw [List.getD_eq_getElem?_getD, List.getElem?_append_right (by omega), ← List.getD_eq_getElem?_getD]
    rw [e1, e2]; exact StrChars.Road.low_at _ ds _ hd
theorem own_hs_sub {va : List Value} {cs : List Int32} (h : own_hs va cs) : own_subv va 0 cs.length = own_lb cs := by
  apply List.ext_getElem
  · simp [own_subv, own_lb]
  · intro k h1 h2
    have hk : k < cs.length := by simpa [own_lb] using h2
    have q := h k hk
    simp only [own_subv, own_lb, List.getElem_map, List.getElem_range, Nat.zero_add]
    rw [q]; simp [List.getD_eq_getElem?_getD, hk]
theorem own_hs_all {va : List Value} {cs : List Int32} (h : own_hs va cs) (hl : va.length = cs.length) : va = own_lb cs := (own_subv_all hl).trans (own_hs_sub h)
theorem own_tnat {a : Nat} {x : Int32} (hx : Int32.ofNat a = x) (h : a < 4000) : x.toNatClampNeg = a ∧ ¬ x < 0 ∧ x.toInt = a := by
  subst hx
  have e : (Int32.ofNat a).toInt = a := Int32.toInt_ofNat_of_lt (by omega)
  refine ⟨by simp only [Int32.toNatClampNeg, e]; omega, ?_, e⟩
  rw [Int32.lt_iff_toInt_lt, e]; simp only [Int32.reduceToInt]; omega
theorem own_add {a b : Nat} {x y : Int32} (hx : Int32.ofNat a = x) (hy : Int32.ofNat b = y) : Int32.ofNat (a + b) = x + y := by subst hx hy; exact Int32.ofNat_add a b
theorem own_shl0 (x : Int32) : x <<< ((0 : Int32) &&& 31) = x := by
  apply Int32.toInt_inj.mp
  have q := c_ishl x (0 : Int32) 0 (by decide); have r := rng32 x; have r2 := rng32 (x <<< ((0 : Int32) &&& 31))
  have e : ((2 ^ 0 : Nat) : Int) = 1 := rfl
  rw [e] at q
  omega
theorem own_shr0 (x : Int32) : x >>> ((0 : Int32) &&& 31) = x := by
  apply Int32.toInt_inj.mp
  rw [c_ishr x (0 : Int32) 0 (by decide)]; simp
def own_dec (n : Nat) (x : Int64) : List Int32 := (if x < 0 then [45] else []) ++ (List.range (Jvm.Free.SBG.digitsL n)).map fun j => Int32.ofNat (48 + n / 10 ^ (Jvm.Free.SBG.digitsL n - 1 - j) % 10)
theorem own_dec_len (n : Nat) (x : Int64) : (own_dec n x).length = Jvm.Free.SBG.digitsL n + Jvm.Free.SBG.GetCharsL.sgnL x := by
  unfold own_dec Jvm.Free.SBG.GetCharsL.sgnL
  by_cases h : x < 0
  · simp [h]
  · simp [h]
theorem own_dc8 : ∀ k, k < 128 → StrChars.lo8 (Int32.ofNat k) = Int32.ofNat k := by decide +kernel
theorem own_dec_at {n : Nat} {x : Int64} {j : Nat} (h : j < Jvm.Free.SBG.digitsL n) : (own_dec n x).getD (Jvm.Free.SBG.GetCharsL.sgnL x + j) 0 = Int32.ofNat (48 + n / 10 ^ (Jvm.Free.SBG.digitsL n - 1 - j) % 10) := by
  unfold own_dec Jvm.Free.SBG.GetCharsL.sgnL
  by_cases hx : x < 0
  · simp [hx, List.getD_eq_getElem?_getD, Nat.add_comm 1 j, h]
  · simp [hx, List.getD_eq_getElem?_getD, h]
theorem own_dec_hs {va va' : List Value} {cs : List Int32} {n idx : Nat} {x : Int64} (h : own_hs va cs) (hidx : idx = cs.length + (Jvm.Free.SBG.digitsL n + Jvm.Free.SBG.GetCharsL.sgnL x)) (g1 : ∀ t, t < Jvm.Free.SBG.digitsL n → va'.getD (idx - 1 - t) (.int 0) = .int (Int32.ofNat (48 + n / 10 ^ t % 10))) (g2 : x < 0 → va'.getD (idx - Jvm.Free.SBG.digitsL n - 1) (.int 0) = .int 45)
    (g3 : ∀ j, j < idx - (Jvm.Free.SBG.digitsL n + Jvm.Free.SBG.GetCharsL.sgnL x) → va'.getD j (.int 0) = va.getD j (.int 0)) : own_hs va' (cs ++ own_dec n x) := fun i hi => by
  rw [List.length_append, own_dec_len] at hi
  by_cases q : i < cs.length
  · have e2 : (cs ++ own_dec n x).getD i 0 = cs.getD i 0 := by rw [List.getD_eq_getElem?_getD, List.getElem?_append_left q, ← List.getD_eq_getElem?_getD]
    rw [g3 i (by omega), e2]; exact h i q
  · have e2 : (cs ++ own_dec n x).getD i 0 = (own_dec n x).getD (i - cs.length) 0 := by rw [List.getD_eq_getElem?_getD, List.getElem?_append_right (by omega), ← List.getD_eq_getElem?_getD]
    rw [e2]
    by_cases hx : x < 0
    · have hs : Jvm.Free.SBG.GetCharsL.sgnL x = 1 := by simp [Jvm.Free.SBG.GetCharsL.sgnL, hx]
      by_cases q2 : i = cs.length
      · have e3 : (own_dec n x).getD (i - cs.length) 0 = 45 := by rw [q2, Nat.sub_self]; unfold own_dec; simp [hx]
        have g := g2 hx
        rw [show idx - Jvm.Free.SBG.digitsL n - 1 = i from by omega] at g
        rw [g, e3]; decide
      · have e3 := own_dec_at (n := n) (x := x) (j := i - cs.length - 1) (by omega)
        rw [hs, show 1 + (i - cs.length - 1) = i - cs.length from by omega] at e3
        have g := g1 (Jvm.Free.SBG.digitsL n - 1 - (i - cs.length - 1)) (by omega)
        rw [show idx - 1 - (Jvm.Free.SBG.digitsL n - 1 - (i - cs.length - 1)) = i from by omega] at g
        rw [g, e3, own_dc8 _ (by have := Nat.mod_lt (n / 10 ^ (Jvm.Free.SBG.digitsL n - 1 - (i - cs.length - 1))) (show 0 < 10 from by decide); omega)]
    · have hs : Jvm.Free.SBG.GetCharsL.sgnL x = 0 := by simp [Jvm.Free.SBG.GetCharsL.sgnL, hx]
      have e3 := own_dec_at (n := n) (x := x) (j := i - cs.length) (by omega)
      rw [hs, Nat.zero_add] at e3
      have g := g1 (Jvm.Free.SBG.digitsL n - 1 - (i - cs.length)) (by omega)
      rw [show idx - 1 - (Jvm.Free.SBG.digitsL n - 1 - (i - cs.length)) = i from by omega] at g
      rw [g, e3, own_dc8 _ (by have := Nat.mod_lt (n / 10 ^ (Jvm.Free.SBG.digitsL n - 1 - (i - cs.length))) (show 0 < 10 from by decide); omega)]
theorem dc18_0 : decode jdk_42_method_147_code 0 = .ok (.aload_n 0, 1) := by decide +kernel
theorem dc18_1 : decode jdk_42_method_147_code 1 = .ok (.invokevirtual 335, 3) := by decide +kernel
theorem dc14_0 : decode jdk_42_method_152_code 0 = .ok (.getstatic 38, 3) := by decide +kernel
theorem dc14_3 : decode jdk_42_method_152_code 3 = .ok (.ifCond .eq 10, 3) := by decide +kernel
theorem dc14_6 : decode jdk_42_method_152_code 6 = .ok (.aload_n 0, 1) := by decide +kernel
theorem dc14_7 : decode jdk_42_method_152_code 7 = .ok (.getfield 15, 3) := by decide +kernel
theorem dc14_10 : decode jdk_42_method_152_code 10 = .ok (.goto 4, 3) := by decide +kernel
theorem dc14_14 : decode jdk_42_method_152_code 14 = .ok (.ireturn, 1) := by decide +kernel
theorem own_pn_java_lang_String : plainName "java/lang/String" = true := by first | (simp [plainName, overriddenIn]; done) | decide +kernel
def Q_coder_0 (Z : State) (h0 : Heap) (n0 : Nat) (v : Option Value) (h : Heap) (L : List Loc) : Prop := v = some (.int 0) ∧ Fr n0 L ∧ h = h0
set_option maxRecDepth 65536 in
set_option maxHeartbeats 40000000 in
theorem rm_coder_0 (l : Launch) (Z : State) (a0 : Array Value) (hw : ∀ d ∈ tables_1, d.before a0 Z = true) (ws : List Jvm.Cond) (o0 : Addr) (y0 : Int32) (h0 : Heap) (n0 : Nat) (Z0 : n0 ≤ h0.size) (P0 : Sta Z h0 "java/lang/String" "COMPACT_STRINGS" "Z" (.int y0)) (P1 : Fld Z h0 o0 "java/lang/String" "coder" "B" (.int 0)) (hb0 : ¬ (y0 = (0 : Int32))) :
    MetFree l (⟨"java/lang/String", "coder", "()B"⟩ : MethodName) (head1 (Jvm.Cond.code (⟨"java/lang/String", "coder", "()B"⟩ : MethodName) jdk_42_method_152_code 1 (some .byte) :: ws) ({ frames := 0, cells := 0, slots := 0, locals := 0 } : Room)) (fun aA U => aA = #[(.ref o0)] ∧ Z.Warmed39 U.vm ∧ U.heap = h0) (fun _ _ _ _ _ => True) (fun _ U o U' => ∃ v L, o = .returned v ∧ Q_coder_0 Z h0 n0 v U'.heap L ∧ FrameEnd U o U' L ({ frames := 0, cells := 0, slots := 0, locals := 0 } : Room).cells ({ frames := 0, cells := 0, slots := 0, locals := 0 } : Room).slots) := by
  refine MetFree.of_bodySF (plainFor_of_name own_pn_java_lang_String) hisR ?_
  intro p e s m args below meth c s₁ Bd hml0 hP hK
  obtain ⟨rfl, hZ, hh⟩ := hP
  have hx := Bd.exec
  have hby := Bd.bytes
  have hlk : meth.locks = false := BodyLoose.notSynchronized Bd
  have hml : c.maxLocals = 1 := hml0
  have hown : s.vm.findClass "java/lang/String" = some m.cls := findClass_of_methodNamed Bd.named
  have hnm := (name_of_methodNamed Bd.named Bd.method).1
  have X0 : Stand p l e ({ frames := 0, cells := 0, slots := 0, locals := 0 } : Room) s m #[(.ref o0)] below meth c s₁ [] 0 0 := Stand.of_body Bd
  have e0 : s₁.heap = h0 := by rw [← hh, Bd.state]; rfl
  have N0 := Fr.nil n0
  show oG p e below (own_K s (Q_coder_0 Z h0 n0) ({ frames := 0, cells := 0, slots := 0, locals := 0 } : Room).cells ({ frames := 0, cells := 0, slots := 0, locals := 0 } : Room).slots) (s₁.setTop (entryFrame m #[(.ref o0)] 1))
  rw [(by first | (simp [entryFrame, mkF, argsToLocals, Value.category]; done) | rfl : entryFrame m #[(.ref o0)] 1 = mkF m 0 #[sR o0] [])]
  show oG p e below _ (s₁.setTop (mkF m 0 #[sR o0] []))
  obtain ⟨T1, X1, e1, st1⟩ := getS2 X0 hx hZ hown (host := "") (Or.inl (hw _ (own_m 14 rfl))) Via.refl e0 P0 (g := (mkF m 0 #[sR o0] [])) rfl (hb hby dc14_0)
  refine og st1 ?_
  show oG p e below _ (T1.setTop (mkF m 3 #[sR o0] [(.int y0)]))
  refine og (fun _ hr => XS.ifNo X1.here hx rfl (hb hby dc14_3) rfl ((if0 _ _).trans (feq hb0).1) hr) ?_
  show oG p e below _ (T1.setTop (mkF m 6 #[sR o0] []))
  refine og (fun _ hr => XS.aloadN X1.here hx rfl (hb hby dc14_6) rfl rfl hr) ?_
  show oG p e below _ (T1.setTop (mkF m 7 #[sR o0] [(.ref o0)]))
  obtain ⟨T2, X2, e2, st2⟩ := getF X1 hx hZ hown (host := "") (Or.inl (hw _ (own_m 26 rfl))) Via.refl e1 P1 (g := (mkF m 7 #[sR o0] [(.ref o0)])) rfl rfl (hb hby dc14_7)
  refine og st2 ?_
  show oG p e below _ (T2.setTop (mkF m 10 #[sR o0] [(.int 0)]))
  refine og (fun _ hr => XS.goto X2.here hx rfl (pc0 := 10) (pc' := 14) rfl (hb hby dc14_10) (by decide) (by decide) hr) ?_
  show oG p e below _ (T2.setTop (mkF m 14 #[sR o0] [(.int 0)]))
  exact own_retN X2 hx hlk Bd.returns (t := .byte) (by simp) (hb hby dc14_14) (by decide) (by decide) ⟨rfl, N0, e2⟩
theorem own_pd5 : parseMethodDescriptor "()B" = some ⟨[], some .byte⟩ := by decide +kernel
theorem dc18_4 : decode jdk_42_method_147_code 4 = .ok (.iload_n 3, 1) := by decide +kernel
theorem dc18_5 : decode jdk_42_method_147_code 5 = .ok (.if_icmp .ne 23, 3) := by decide +kernel
theorem dc18_8 : decode jdk_42_method_147_code 8 = .ok (.aload_n 0, 1) := by decide +kernel
theorem dc18_9 : decode jdk_42_method_147_code 9 = .ok (.getfield 9, 3) := by decide +kernel
theorem dc18_12 : decode jdk_42_method_147_code 12 = .ok (.iconst 0, 1) := by decide +kernel
theorem dc18_13 : decode jdk_42_method_147_code 13 = .ok (.aload_n 1, 1) := by decide +kernel
theorem dc18_14 : decode jdk_42_method_147_code 14 = .ok (.iload_n 2, 1) := by decide +kernel
theorem dc18_15 : decode jdk_42_method_147_code 15 = .ok (.iload_n 3, 1) := by decide +kernel
theorem dc18_16 : decode jdk_42_method_147_code 16 = .ok (.ishl, 1) := by decide +kernel
theorem dc18_17 : decode jdk_42_method_147_code 17 = .ok (.aload_n 0, 1) := by decide +kernel
theorem dc18_18 : decode jdk_42_method_147_code 18 = .ok (.getfield 9, 3) := by decide +kernel
theorem dc18_21 : decode jdk_42_method_147_code 21 = .ok (.arraylength, 1) := by decide +kernel
theorem dc18_22 : decode jdk_42_method_147_code 22 = .ok (.invokestatic 212, 3) := by decide +kernel
theorem dc18_25 : decode jdk_42_method_147_code 25 = .ok (.goto 18, 3) := by decide +kernel
theorem dc18_43 : decode jdk_42_method_147_code 43 = .ok (.return_, 1) := by decide +kernel
def Q_gb (Z : State) (ds_ : List Int32) (ar_ : Addr) (ka_ : ClassId) (cap_ : Int32) (va_ : List Value) (iN_ : Nat) (h0 : Heap) (n0 : Nat) (v : Option Value) (h : Heap) (L : List Loc) : Prop := v = none ∧ Fr n0 L ∧ Keep h0 h [ar_] ∧ Arv Z h ar_ ka_ .byte cap_ (own_ins va_ (own_lb ds_) iN_) (.int 0)
set_option maxRecDepth 65536 in
set_option maxHeartbeats 40000000 in
theorem rm_gb (l : Launch) (Z : State) (a0 : Array Value) (hw : ∀ d ∈ tables_1, d.before a0 Z = true) (ws : List Jvm.Cond) (s_ : Addr) (t_ : Addr) (kt_ : ClassId) (nn_ : Int32) (ds_ : List Int32) (ar_ : Addr) (ka_ : ClassId) (cap_ : Int32) (va_ : List Value) (i_ : Int32) (iN_ : Nat) (i_COMPACT_STRINGS : Int32) (h0 : Heap) (n0 : Nat) (Z0 : n0 ≤ h0.size) (Es_ : Exa Z h0 s_ "java/lang/String") (Cs_ : Fld Z h0 s_ "java/lang/String" "coder" "B" (.int 0)) (Vs_ : Fld Z h0 s_ "java/lang/String" "value" "[B" (.ref t_)) (Kt_ : Arv Z h0 t_ kt_ .byte nn_ (own_lb ds_) (.int 0)) (Ka_ : Arv Z h0 ar_ ka_ .byte cap_ va_ (.int 0)) (hnn_ : Int32.ofNat ds_.length = nn_) (hdl_ : ds_.length ≤ 40) (hiN_ : Int32.ofNat iN_ = i_) (hi40_ : iN_ ≤ 40) (hvl_ : va_.length = cap_.toNatClampNeg) (hbd_ : iN_ + ds_.length ≤ cap_.toNatClampNeg) (gar_ : n0 ≤ ar_) (nta_ : t_ ≠ ar_) (S_COMPACT_STRINGS : Sta Z h0 "java/lang/String" "COMPACT_STRINGS" "Z" (.int i_COMPACT_STRINGS)) (hs_COMPACT_STRINGS : ¬ (i_COMPACT_STRINGS = (0 : Int32))) :
    MetFree l (⟨"java/lang/String", "getBytes", "([BIB)V"⟩ : MethodName) (head1 (Jvm.Cond.code (⟨"java/lang/String", "getBytes", "([BIB)V"⟩ : MethodName) jdk_42_method_147_code 4 none :: ws) ({ frames := 1, cells := 0, slots := 0, locals := 40 } : Room)) (fun aA U => aA = #[(.ref s_), (.ref ar_), (.int i_), (.int 0)] ∧ Z.Warmed39 U.vm ∧ U.heap = h0) (fun _ _ _ _ _ => True) (fun _ U o U' => ∃ v L, o = .returned v ∧ Q_gb Z ds_ ar_ ka_ cap_ va_ iN_ h0 n0 v U'.heap L ∧ FrameEnd U o U' L ({ frames := 1, cells := 0, slots := 0, locals := 40 } : Room).cells ({ frames := 1, cells := 0, slots := 0, locals := 40 } : Room).slots) := by
  refine MetFree.of_bodySF (plainFor_of_name own_pn_java_lang_String) hisR ?_
  intro p e s m args below meth c s₁ Bd hml0 hP hK
  obtain ⟨rfl, hZ, hh⟩ := hP
  have hx := Bd.exec
  have hby := Bd.bytes
  have hlk : meth.locks = false := BodyLoose.notSynchronized Bd
  have hml : c.maxLocals = 4 := hml0
  have hown : s.vm.findClass "java/lang/String" = some m.cls := findClass_of_methodNamed Bd.named
  have hnm := (name_of_methodNamed Bd.named Bd.method).1
  have X0 : Stand p l e ({ frames := 1, cells := 0, slots := 0, locals := 40 } : Room) s m #[(.ref s_), (.ref ar_), (.int i_), (.int 0)] below meth c s₁ [] 0 0 := Stand.of_body Bd
  have e0 : s₁.heap = h0 := by rw [← hh, Bd.state]; rfl
  have N0 := Fr.nil n0
  have hq1_ := own_tnat hiN_ (by omega)
  have hq2_ := own_tnat hnn_ (by omega)
  have K0 : Keep h0 h0 [ar_] := Keep.refl _ _
  show oG p e below (own_K s (Q_gb Z ds_ ar_ ka_ cap_ va_ iN_ h0 n0) ({ frames := 1, cells := 0, slots := 0, locals := 40 } : Room).cells ({ frames := 1, cells := 0, slots := 0, locals := 40 } : Room).slots) (s₁.setTop (entryFrame m #[(.ref s_), (.ref ar_), (.int i_), (.int 0)] 4))
  rw [(by first | (simp [entryFrame, mkF, argsToLocals, Value.category]; done) | rfl : entryFrame m #[(.ref s_), (.ref ar_), (.int i_), (.int 0)] 4 = mkF m 0 #[sR s_, sR ar_, sI i_, sI 0] [])]
  show oG p e below _ (s₁.setTop (mkF m 0 #[sR s_, sR ar_, sI i_, sI 0] []))
  refine og (fun _ hr => XS.aloadN X0.here hx rfl (hb hby dc18_0) rfl rfl hr) ?_
  show oG p e below _ (s₁.setTop (mkF m 1 #[sR s_, sR ar_, sI i_, sI 0] [(.ref s_)]))
  refine own_cv X0 hx hZ hown (notFace_of_selects (args := #[]) (mvT hZ (hw _ (own_m 85 rfl)))) (hw _ (own_m 82 rfl)) (hw _ (own_m 83 rfl)) (hw _ (own_m 85 rfl)) (hw _ (own_m 84 rfl)) (hw _ (own_m 3 rfl)) (hw _ (own_m 86 rfl)) (by decide) Es_ (rm := { frames := 0, cells := 0, slots := 0, locals := 0 }) (rm_coder_0 l Z a0 hw [] s_ i_COMPACT_STRINGS h0 n0 Z0 S_COMPACT_STRINGS Cs_ hs_COMPACT_STRINGS) (by decide) (W := 0) (by decide) (by decide) (by decide) e0 (by rw [hml]; rfl) (argsL := []) (lenOf own_pd5 rfl) (rest := []) rfl rfl (Nat.le_of_eq rfl) (hb hby dc18_1) ?_
  intro _ T1 L1 X1 hQ1
  obtain ⟨rfl, N1q, e1⟩ := hQ1
  have N1 := Fr.app N0 N1q
  show oG p e below _ (T1.setTop (mkF m 4 #[sR s_, sR ar_, sI i_, sI 0] [(.int 0)]))
  refine og (fun _ hr => XS.iloadN X1.here hx rfl (hb hby dc18_4) rfl (XS.icmpNo X1.here hx rfl (hb hby dc18_5) rfl (teq (by decide)).2 (XS.aloadN X1.here hx rfl (hb hby dc18_8) rfl rfl hr))) ?_
  show oG p e below _ (T1.setTop (mkF m 9 #[sR s_, sR ar_, sI i_, sI 0] [(.ref s_)]))
  obtain ⟨T2, X2, e2, st2⟩ := getF X1 hx hZ hown (host := "") (Or.inl (hw _ (own_m 28 rfl))) Via.refl e1 Vs_ (g := (mkF m 9 #[sR s_, sR ar_, sI i_, sI 0] [(.ref s_)])) rfl rfl (hb hby dc18_9)
  refine og st2 ?_
  show oG p e below _ (T2.setTop (mkF m 12 #[sR s_, sR ar_, sI i_, sI 0] [(.ref t_)]))
  refine og (fun _ hr => XS.iconst X2.here hx rfl (hb hby dc18_12) (XS.aloadN X2.here hx rfl (hb hby dc18_13) rfl rfl (XS.iloadN X2.here hx rfl (hb hby dc18_14) rfl (XS.iloadN X2.here hx rfl (hb hby dc18_15) rfl (XS.ishl X2.here hx rfl (hb hby dc18_16) rfl (XS.aloadN X2.here hx rfl (hb hby dc18_17) rfl rfl hr)))))) ?_
  show oG p e below _ (T2.setTop (mkF m 18 #[sR s_, sR ar_, sI i_, sI 0] [(.ref s_), (.int (i_ <<< ((0 : Int32) &&& 31))), (.ref ar_), (.int 0), (.ref t_)]))
  obtain ⟨T3, X3, e3, st3⟩ := getF X2 hx hZ hown (host := "") (Or.inl (hw _ (own_m 28 rfl))) Via.refl e2 Vs_ (g := (mkF m 18 #[sR s_, sR ar_, sI i_, sI 0] [(.ref s_), (.int (i_ <<< ((0 : Int32) &&& 31))), (.ref ar_), (.int 0), (.ref t_)])) rfl rfl (hb hby dc18_18)
  refine og st3 ?_
  show oG p e below _ (T3.setTop (mkF m 21 #[sR s_, sR ar_, sI i_, sI 0] [(.ref t_), (.int (i_ <<< ((0 : Int32) &&& 31))), (.ref ar_), (.int 0), (.ref t_)]))
  refine og (fun _ hr => own_alen X3 hx hZ e3 Kt_ rfl rfl (hb hby dc18_21) hr) ?_
  show oG p e below _ (T3.setTop (mkF m 22 #[sR s_, sR ar_, sI i_, sI 0] [(.int nn_), (.int (i_ <<< ((0 : Int32) &&& 31))), (.ref ar_), (.int 0), (.ref t_)]))
  rw [own_shl0]
  show oG p e below _ (T3.setTop (mkF m 22 #[sR s_, sR ar_, sI i_, sI 0] [(.int nn_), (.int i_), (.ref ar_), (.int 0), (.ref t_)]))
  obtain ⟨T4, h4, L4, X4, e4, N4, K4, A4, st4⟩ := cpA X3 hx hZ hown (hw _ (own_m 110 rfl)) (hw _ (own_m 113 rfl)) (hw _ (own_m 111 rfl)) (hw _ (own_m 112 rfl)) e3 Kt_ Ka_ (us := (own_lb ds_)) (Or.inl ⟨rfl, rfl⟩) (by decide) hq1_.2.1 hq2_.2.1 (Nat.le_of_eq (Nat.zero_add _)) (by rw [hq1_.1, hq2_.1]; exact hbd_) (by rw [hq2_.1]; exact own_subv_all (own_lb_len ds_)) (by rw [hq1_.1, hq2_.1, hvl_]; exact hbd_) N1 gar_ (g := (mkF m 22 #[sR s_, sR ar_, sI i_, sI 0] [(.int nn_), (.int i_), (.ref ar_), (.int 0), (.ref t_)])) rfl (by rw [hml]; rfl) rfl (hb hby dc18_22) (by decide) (W := 0) (by show 2 * 0 + _ ≤ _; exact Nat.le_of_eq rfl) (by decide)
  refine og st4 ?_
  have f5 : Arv Z h4 ar_ ka_ .byte cap_ (own_ins va_ (own_lb ds_) iN_) (.int 0) := by have q := A4; rw [hq1_.1, hq2_.1, ← own_lb_len ds_] at q; exact q
  show oG p e below _ (T4.setTop (mkF m 25 #[sR s_, sR ar_, sI i_, sI 0] []))
  refine og (fun _ hr => XS.goto X4.here hx rfl (pc0 := 25) (pc' := 43) rfl (hb hby dc18_25) (by decide) (by decide) hr) ?_
  show oG p e below _ (T4.setTop (mkF m 43 #[sR s_, sR ar_, sI i_, sI 0] []))
  have K6 := (K0.trans K4 (allS (Or.inl (List.mem_of_getElem? (i := 0) rfl)) all0))
  exact own_ret0 X4 hx hlk Bd.returns (hb hby dc18_43) (by decide) (by decide) (by rw [e4]; exact ⟨rfl, N4, K6, f5⟩)
theorem dc16_0 : decode jdk_68_method_73_code 0 = .ok (.aload_n 0, 1) := by decide +kernel
theorem dc16_1 : decode jdk_68_method_73_code 1 = .ok (.aload_n 2, 1) := by decide +kernel
theorem dc16_2 : decode jdk_68_method_73_code 2 = .ok (.invokevirtual 397, 3) := by decide +kernel
theorem dc17_0 : decode jdk_68_method_71_code 0 = .ok (.getstatic 18, 3) := by decide +kernel
theorem dc17_3 : decode jdk_68_method_71_code 3 = .ok (.ifCond .eq 18, 3) := by decide +kernel
theorem dc17_6 : decode jdk_68_method_71_code 6 = .ok (.aload_n 0, 1) := by decide +kernel
theorem dc17_7 : decode jdk_68_method_71_code 7 = .ok (.getfield 22, 3) := by decide +kernel
theorem dc17_10 : decode jdk_68_method_71_code 10 = .ok (.aload_n 1, 1) := by decide +kernel
theorem dc17_11 : decode jdk_68_method_71_code 11 = .ok (.invokevirtual 40, 3) := by decide +kernel
theorem dc17_14 : decode jdk_68_method_71_code 14 = .ok (.if_icmp .eq 7, 3) := by decide +kernel
theorem dc17_21 : decode jdk_68_method_71_code 21 = .ok (.return_, 1) := by decide +kernel
theorem own_pn_java_lang_AbstractStringBuilder : plainName "java/lang/AbstractStringBuilder" = true := by first | (simp [plainName, overriddenIn]; done) | decide +kernel
def Q_inflateIfNeededFor_1 (Z : State) (h0 : Heap) (n0 : Nat) (v : Option Value) (h : Heap) (L : List Loc) : Prop := v = none ∧ Fr n0 L ∧ h = h0
set_option maxRecDepth 65536 in
set_option maxHeartbeats 40000000 in
theorem rm_inflateIfNeededFor_1 (l : Launch) (Z : State) (a0 : Array Value) (hw : ∀ d ∈ tables_1, d.before a0 Z = true) (ws : List Jvm.Cond) (o0 : Addr) (o1 : Addr) (y0 : Int32) (h0 : Heap) (n0 : Nat) (Z0 : n0 ≤ h0.size) (P0 : Sta Z h0 "java/lang/String" "COMPACT_STRINGS" "Z" (.int y0)) (P1 : Fld Z h0 o0 "java/lang/AbstractStringBuilder" "coder" "B" (.int 0)) (P2 : Fld Z h0 o1 "java/lang/String" "coder" "B" (.int 0)) (P3 : Exa Z h0 o1 "java/lang/String") (hb0 : ¬ (y0 = (0 : Int32))) :
    MetFree l (⟨"java/lang/AbstractStringBuilder", "inflateIfNeededFor", "(Ljava/lang/String;)V"⟩ : MethodName) (head1 (Jvm.Cond.code (⟨"java/lang/AbstractStringBuilder", "inflateIfNeededFor", "(Ljava/lang/String;)V"⟩ : MethodName) jdk_68_method_71_code 2 none :: ws) ({ frames := 1, cells := 0, slots := 0, locals := 13 } : Room)) (fun aA U => aA = #[(.ref o0), (.ref o1)] ∧ Z.Warmed39 U.vm ∧ U.heap = h0) (fun _ _ _ _ _ => True) (fun _ U o U' => ∃ v L, o = .returned v ∧ Q_inflateIfNeededFor_1 Z h0 n0 v U'.heap L ∧ FrameEnd U o U' L ({ frames := 1, cells := 0, slots := 0, locals := 13 } : Room).cells ({ frames := 1, cells := 0, slots := 0, locals := 13 } : Room).slots) := by
  refine MetFree.of_bodySF (plainFor_of_name own_pn_java_lang_AbstractStringBuilder) hisR ?_
  intro p e s m args below meth c s₁ Bd hml0 hP hK
  obtain ⟨rfl, hZ, hh⟩ := hP
  have hx := Bd.exec
  have hby := Bd.bytes
  have hlk : meth.locks = false := BodyLoose.notSynchronized Bd
  have hml : c.maxLocals = 2 := hml0
  have hown : s.vm.findClass "java/lang/AbstractStringBuilder" = some m.cls := findClass_of_methodNamed Bd.named
  have hnm := (name_of_methodNamed Bd.named Bd.method).1
  have X0 : Stand p l e ({ frames := 1, cells := 0, slots := 0, locals := 13 } : Room) s m #[(.ref o0), (.ref o1)] below meth c s₁ [] 0 0 := Stand.of_body Bd
  have e0 : s₁.heap = h0 := by rw [← hh, Bd.state]; rfl
  have N0 := Fr.nil n0
  show oG p e below (own_K s (Q_inflateIfNeededFor_1 Z h0 n0) ({ frames := 1, cells := 0, slots := 0, locals := 13 } : Room).cells ({ frames := 1, cells := 0, slots := 0, locals := 13 } : Room).slots) (s₁.setTop (entryFrame m #[(.ref o0), (.ref o1)] 2))
  rw [(by first | (simp [entryFrame, mkF, argsToLocals, Value.category]; done) | rfl : entryFrame m #[(.ref o0), (.ref o1)] 2 = mkF m 0 #[sR o0, sR o1] [])]
  show oG p e below _ (s₁.setTop (mkF m 0 #[sR o0, sR o1] []))
  obtain ⟨T1, X1, e1, st1⟩ := getS2 X0 hx hZ hown (host := "") (Or.inl (hw _ (own_m 59 rfl))) Via.refl e0 P0 (g := (mkF m 0 #[sR o0, sR o1] [])) rfl (hb hby dc17_0)
  refine og st1 ?_
  show oG p e below _ (T1.setTop (mkF m 3 #[sR o0, sR o1] [(.int y0)]))
  refine og (fun _ hr => XS.ifNo X1.here hx rfl (hb hby dc17_3) rfl ((if0 _ _).trans (feq hb0).1) hr) ?_
  show oG p e below _ (T1.setTop (mkF m 6 #[sR o0, sR o1] []))
  refine og (fun _ hr => XS.aloadN X1.here hx rfl (hb hby dc17_6) rfl rfl hr) ?_
  show oG p e below _ (T1.setTop (mkF m 7 #[sR o0, sR o1] [(.ref o0)]))
  obtain ⟨T2, X2, e2, st2⟩ := getF X1 hx hZ hown (host := "") (Or.inl (hw _ (own_m 62 rfl))) Via.refl e1 P1 (g := (mkF m 7 #[sR o0, sR o1] [(.ref o0)])) rfl rfl (hb hby dc17_7)
  refine og st2 ?_
  show oG p e below _ (T2.setTop (mkF m 10 #[sR o0, sR o1] [(.int 0)]))
  refine og (fun _ hr => XS.aloadN X2.here hx rfl (hb hby dc17_10) rfl rfl hr) ?_
  show oG p e below _ (T2.setTop (mkF m 11 #[sR o0, sR o1] [(.ref o1), (.int 0)]))
  refine own_cv X2 hx hZ hown (notFace_of_selects (args := #[]) (mvT hZ (hw _ (own_m 85 rfl)))) (hw _ (own_m 104 rfl)) (hw _ (own_m 83 rfl)) (hw _ (own_m 85 rfl)) (hw _ (own_m 84 rfl)) (hw _ (own_m 3 rfl)) (hw _ (own_m 86 rfl)) (by decide) P3 (rm := { frames := 0, cells := 0, slots := 0, locals := 0 }) (rm_coder_0 l Z a0 hw [] o1 y0 h0 n0 Z0 P0 P2 hb0) (by decide) (W := 1) (by decide) (by decide) (by decide) e2 (by rw [hml]; rfl) (argsL := []) (lenOf own_pd5 rfl) (rest := [(.int 0)]) rfl rfl (Nat.le_of_eq rfl) (hb hby dc17_11) ?_
  intro _ T3 L3 X3 hQ3
  obtain ⟨rfl, N3q, e3⟩ := hQ3
  have N3 := Fr.app N0 N3q
  show oG p e below _ (T3.setTop (mkF m 14 #[sR o0, sR o1] [(.int 0), (.int 0)]))
  refine og (fun _ hr => XS.icmpYes X3.here hx rfl (pc0 := 14) (pc' := 21) rfl (hb hby dc17_14) rfl (teq (by decide)).1 (by decide) (by decide) hr) ?_
  show oG p e below _ (T3.setTop (mkF m 21 #[sR o0, sR o1] []))
  exact own_ret0 X3 hx hlk Bd.returns (hb hby dc17_21) (by decide) (by decide) ⟨rfl, N3, e3⟩
theorem own_pd6 : parseMethodDescriptor "(Ljava/lang/String;)V" = some ⟨[(.object "java/lang/String")], none⟩ := by decide +kernel
theorem dc16_5 : decode jdk_68_method_73_code 5 = .ok (.aload_n 2, 1) := by decide +kernel
theorem dc16_6 : decode jdk_68_method_73_code 6 = .ok (.aload_n 0, 1) := by decide +kernel
theorem dc16_7 : decode jdk_68_method_73_code 7 = .ok (.getfield 15, 3) := by decide +kernel
theorem dc16_10 : decode jdk_68_method_73_code 10 = .ok (.iload_n 1, 1) := by decide +kernel
theorem dc16_11 : decode jdk_68_method_73_code 11 = .ok (.aload_n 0, 1) := by decide +kernel
theorem dc16_12 : decode jdk_68_method_73_code 12 = .ok (.getfield 22, 3) := by decide +kernel
theorem dc16_15 : decode jdk_68_method_73_code 15 = .ok (.invokevirtual 399, 3) := by decide +kernel
theorem own_pd7 : parseMethodDescriptor "([BIB)V" = some ⟨[(.array .byte), .int, .byte], none⟩ := by decide +kernel
theorem dc16_18 : decode jdk_68_method_73_code 18 = .ok (.return_, 1) := by decide +kernel
def Q_ps (Z : State) (ds_ : List Int32) (ar_ : Addr) (ka_ : ClassId) (cap_ : Int32) (va_ : List Value) (iN_ : Nat) (h0 : Heap) (n0 : Nat) (v : Option Value) (h : Heap) (L : List Loc) : Prop := v = none ∧ Fr n0 L ∧ Keep h0 h [ar_] ∧ Arv Z h ar_ ka_ .byte cap_ (own_ins va_ (own_lb ds_) iN_) (.int 0)
set_option maxRecDepth 65536 in
set_option maxHeartbeats 40000000 in
theorem rm_ps (l : Launch) (Z : State) (a0 : Array Value) (hw : ∀ d ∈ tables_1, d.before a0 Z = true) (ws : List Jvm.Cond) (sb_ : Addr) (s_ : Addr) (t_ : Addr) (kt_ : ClassId) (nn_ : Int32) (ds_ : List Int32) (ar_ : Addr) (ka_ : ClassId) (cap_ : Int32) (va_ : List Value) (i_ : Int32) (iN_ : Nat) (i_COMPACT_STRINGS : Int32) (h0 : Heap) (n0 : Nat) (Z0 : n0 ≤ h0.size) (Eb_ : Exa Z h0 sb_ "java/lang/StringBuilder") (Vb_ : Fld Z h0 sb_ "java/lang/AbstractStringBuilder" "value" "[B" (.ref ar_)) (Cb_ : Fld Z h0 sb_ "java/lang/AbstractStringBuilder" "coder" "B" (.int 0)) (Es_ : Exa Z h0 s_ "java/lang/String") (Cs_ : Fld Z h0 s_ "java/lang/String" "coder" "B" (.int 0)) (Vs_ : Fld Z h0 s_ "java/lang/String" "value" "[B" (.ref t_)) (Kt_ : Arv Z h0 t_ kt_ .byte nn_ (own_lb ds_) (.int 0)) (Ka_ : Arv Z h0 ar_ ka_ .byte cap_ va_ (.int 0)) (hnn_ : Int32.ofNat ds_.length = nn_) (hdl_ : ds_.length ≤ 40) (hiN_ : Int32.ofNat iN_ = i_) (hi40_ : iN_ ≤ 40) (hvl_ : va_.length = cap_.toNatClampNeg) (hbd_ : iN_ + ds_.length ≤ cap_.toNatClampNeg) (gar_ : n0 ≤ ar_) (nta_ : t_ ≠ ar_) (S_COMPACT_STRINGS : Sta Z h0 "java/lang/String" "COMPACT_STRINGS" "Z" (.int i_COMPACT_STRINGS)) (hs_COMPACT_STRINGS : ¬ (i_COMPACT_STRINGS = (0 : Int32))) :
    MetFree l (⟨"java/lang/AbstractStringBuilder", "putStringAt", "(ILjava/lang/String;)V"⟩ : MethodName) (head1 (Jvm.Cond.code (⟨"java/lang/AbstractStringBuilder", "putStringAt", "(ILjava/lang/String;)V"⟩ : MethodName) jdk_68_method_73_code 3 none :: ws) ({ frames := 2, cells := 0, slots := 0, locals := 55 } : Room)) (fun aA U => aA = #[(.ref sb_), (.int i_), (.ref s_)] ∧ Z.Warmed39 U.vm ∧ U.heap = h0) (fun _ _ _ _ _ => True) (fun _ U o U' => ∃ v L, o = .returned v ∧ Q_ps Z ds_ ar_ ka_ cap_ va_ iN_ h0 n0 v U'.heap L ∧ FrameEnd U o U' L ({ frames := 2, cells := 0, slots := 0, locals := 55 } : Room).cells ({ frames := 2, cells := 0, slots := 0, locals := 55 } : Room).slots) := by
  refine MetFree.of_bodySF (plainFor_of_name own_pn_java_lang_AbstractStringBuilder) hisR ?_
  intro p e s m args below meth c s₁ Bd hml0 hP hK
  obtain ⟨rfl, hZ, hh⟩ := hP
  have hx := Bd.exec
  have hby := Bd.bytes
  have hlk : meth.locks = false := BodyLoose.notSynchronized Bd
  have hml : c.maxLocals = 3 := hml0
  have hown : s.vm.findClass "java/lang/AbstractStringBuilder" = some m.cls := findClass_of_methodNamed Bd.named
  have hnm := (name_of_methodNamed Bd.named Bd.method).1
  have X0 : Stand p l e ({ frames := 2, cells := 0, slots := 0, locals := 55 } : Room) s m #[(.ref sb_), (.int i_), (.ref s_)] below meth c s₁ [] 0 0 := Stand.of_body Bd
  have e0 : s₁.heap = h0 := by rw [← hh, Bd.state]; rfl
  have N0 := Fr.nil n0
  have K0 : Keep h0 h0 [ar_] := Keep.refl _ _
  show oG p e below (own_K s (Q_ps Z ds_ ar_ ka_ cap_ va_ iN_ h0 n0) ({ frames := 2, cells := 0, slots := 0, locals := 55 } : Room).cells ({ frames := 2, cells := 0, slots := 0, locals := 55 } : Room).slots) (s₁.setTop (entryFrame m #[(.ref sb_), (.int i_), (.ref s_)] 3))
  rw [(by first | (simp [entryFrame, mkF, argsToLocals, Value.category]; done) | rfl : entryFrame m #[(.ref sb_), (.int i_), (.ref s_)] 3 = mkF m 0 #[sR sb_, sI i_, sR s_] [])]
  show oG p e below _ (s₁.setTop (mkF m 0 #[sR sb_, sI i_, sR s_] []))
  refine og (fun _ hr => XS.aloadN X0.here hx rfl (hb hby dc16_0) rfl rfl (XS.aloadN X0.here hx rfl (hb hby dc16_1) rfl rfl hr)) ?_
  show oG p e below _ (s₁.setTop (mkF m 2 #[sR sb_, sI i_, sR s_] [(.ref s_), (.ref sb_)]))
  refine own_cv X0 hx hZ hown (notFace_of_selects (args := #[]) (mvT hZ (hw _ (own_m 102 rfl)))) (hw _ (own_m 99 rfl)) (own_decl (hw _ (own_m 100 rfl)) (hw _ (own_m 103 rfl))) (hw _ (own_m 102 rfl)) (hw _ (own_m 100 rfl)) (hw _ (own_m 56 rfl)) (hw _ (own_m 103 rfl)) (by decide) Eb_ (rm := { frames := 1, cells := 0, slots := 0, locals := 13 }) (rm_inflateIfNeededFor_1 l Z a0 hw [] sb_ s_ i_COMPACT_STRINGS h0 n0 Z0 S_COMPACT_STRINGS Cb_ Cs_ Es_ hs_COMPACT_STRINGS) (by decide) (W := 0) (by decide) (by decide) (by decide) e0 (by rw [hml]; rfl) (argsL := [(.ref s_)]) (lenOf own_pd6 rfl) (rest := []) rfl rfl (Nat.le_of_eq rfl) (hb hby dc16_2) ?_
  intro _ T1 L1 X1 hQ1
  obtain ⟨rfl, N1q, e1⟩ := hQ1
  have N1 := Fr.app N0 N1q
  show oG p e below _ (T1.setTop (mkF m 5 #[sR sb_, sI i_, sR s_] []))
  refine og (fun _ hr => XS.aloadN X1.here hx rfl (hb hby dc16_5) rfl rfl (XS.aloadN X1.here hx rfl (hb hby dc16_6) rfl rfl hr)) ?_
  show oG p e below _ (T1.setTop (mkF m 7 #[sR sb_, sI i_, sR s_] [(.ref sb_), (.ref s_)]))
  obtain ⟨T2, X2, e2, st2⟩ := getF X1 hx hZ hown (host := "") (Or.inl (hw _ (own_m 60 rfl))) Via.refl e1 Vb_ (g := (mkF m 7 #[sR sb_, sI i_, sR s_] [(.ref sb_), (.ref s_)])) rfl rfl (hb hby dc16_7)
  refine og st2 ?_
  show oG p e below _ (T2.setTop (mkF m 10 #[sR sb_, sI i_, sR s_] [(.ref ar_), (.ref s_)]))
  refine og (fun _ hr => XS.iloadN X2.here hx rfl (hb hby dc16_10) rfl (XS.aloadN X2.here hx rfl (hb hby dc16_11) rfl rfl hr)) ?_
  show oG p e below _ (T2.setTop (mkF m 12 #[sR sb_, sI i_, sR s_] [(.ref sb_), (.int i_), (.ref ar_), (.ref s_)]))
  obtain ⟨T3, X3, e3, st3⟩ := getF X2 hx hZ hown (host := "") (Or.inl (hw _ (own_m 62 rfl))) Via.refl e2 Cb_ (g := (mkF m 12 #[sR sb_, sI i_, sR s_] [(.ref sb_), (.int i_), (.ref ar_), (.ref s_)])) rfl rfl (hb hby dc16_12)
  refine og st3 ?_
  show oG p e below _ (T3.setTop (mkF m 15 #[sR sb_, sI i_, sR s_] [(.int 0), (.int i_), (.ref ar_), (.ref s_)]))
  refine own_cv X3 hx hZ hown (notFace_of_selects (args := #[]) (mvT hZ (hw _ (own_m 108 rfl)))) (hw _ (own_m 105 rfl)) (hw _ (own_m 106 rfl)) (hw _ (own_m 108 rfl)) (hw _ (own_m 107 rfl)) (hw _ (own_m 3 rfl)) (hw _ (own_m 109 rfl)) (by decide) Es_ (rm := { frames := 1, cells := 0, slots := 0, locals := 40 }) (rm_gb l Z a0 hw [] s_ t_ kt_ nn_ ds_ ar_ ka_ cap_ va_ i_ iN_ i_COMPACT_STRINGS h0 n0 Z0 Es_ Cs_ Vs_ Kt_ Ka_ hnn_ hdl_ hiN_ hi40_ hvl_ hbd_ gar_ nta_ S_COMPACT_STRINGS hs_COMPACT_STRINGS) (by decide) (W := 0) (by decide) (by decide) (by decide) e3 (by rw [hml]; rfl) (argsL := [(.ref ar_), (.int i_), (.int 0)]) (lenOf own_pd7 rfl) (rest := []) rfl rfl (Nat.le_of_eq rfl) (hb hby dc16_15) ?_
  intro _ T4 L4 X4 hQ4
  obtain ⟨rfl, N4q, K4, f4_0⟩ := hQ4
  have N4 := Fr.app N1 N4q
  show oG p e below _ (T4.setTop (mkF m 18 #[sR sb_, sI i_, sR s_] []))
  have K5 := (K0.trans K4 (allS (Or.inl (List.mem_of_getElem? (i := 0) rfl)) all0))
  exact own_ret0 X4 hx hlk Bd.returns (hb hby dc16_18) (by decide) (by decide) (by exact ⟨rfl, N4, K5, f4_0⟩)
theorem dc43_0 : decode jdk_65_method_121_code 0 = .ok (.iload_n 1, 1) := by decide +kernel
theorem dc43_1 : decode jdk_65_method_121_code 1 = .ok (.aload_n 0, 1) := by decide +kernel
theorem dc43_2 : decode jdk_65_method_121_code 2 = .ok (.arraylength, 1) := by decide +kernel
theorem dc43_3 : decode jdk_65_method_121_code 3 = .ok (.if_icmp .ne 11, 3) := by decide +kernel
theorem dc43_14 : decode jdk_65_method_121_code 14 = .ok (.iload_n 1, 1) := by decide +kernel
theorem dc43_15 : decode jdk_65_method_121_code 15 = .ok (.newarray .byte, 2) := by decide +kernel
theorem dc43_17 : decode jdk_65_method_121_code 17 = .ok (.astore_n 2, 1) := by decide +kernel
theorem dc43_18 : decode jdk_65_method_121_code 18 = .ok (.aload_n 0, 1) := by decide +kernel
theorem dc43_19 : decode jdk_65_method_121_code 19 = .ok (.iconst 0, 1) := by decide +kernel
theorem dc43_20 : decode jdk_65_method_121_code 20 = .ok (.aload_n 2, 1) := by decide +kernel
theorem dc43_21 : decode jdk_65_method_121_code 21 = .ok (.iconst 0, 1) := by decide +kernel
theorem dc43_22 : decode jdk_65_method_121_code 22 = .ok (.aload_n 0, 1) := by decide +kernel
theorem dc43_23 : decode jdk_65_method_121_code 23 = .ok (.arraylength, 1) := by decide +kernel
theorem dc43_24 : decode jdk_65_method_121_code 24 = .ok (.iload_n 1, 1) := by decide +kernel
theorem dc43_25 : decode jdk_65_method_121_code 25 = .ok (.invokestatic 304, 3) := by decide +kernel
theorem dc33_0 : decode jdk_29_method_69_code 0 = .ok (.iload_n 0, 1) := by decide +kernel
theorem dc33_1 : decode jdk_29_method_69_code 1 = .ok (.iload_n 1, 1) := by decide +kernel
theorem dc33_2 : decode jdk_29_method_69_code 2 = .ok (.if_icmp .gt 7, 3) := by decide +kernel
theorem dc33_5 : decode jdk_29_method_69_code 5 = .ok (.iload_n 0, 1) := by decide +kernel
theorem dc33_6 : decode jdk_29_method_69_code 6 = .ok (.goto 4, 3) := by decide +kernel
theorem dc33_10 : decode jdk_29_method_69_code 10 = .ok (.ireturn, 1) := by decide +kernel
def Q_min_2 (Z : State) (h0 : Heap) (n0 : Nat) (v : Option Value) (h : Heap) (L : List Loc) : Prop := v = some (.int 16) ∧ Fr n0 L ∧ h = h0
set_option maxRecDepth 65536 in
set_option maxHeartbeats 40000000 in
theorem rm_min_2 (l : Launch) (Z : State) (a0 : Array Value) (hw : ∀ d ∈ tables_1, d.before a0 Z = true) (ws : List Jvm.Cond) (h0 : Heap) (n0 : Nat) (Z0 : n0 ≤ h0.size) :
    MetFree l (⟨"java/lang/Math", "min", "(II)I"⟩ : MethodName) (head1 (Jvm.Cond.code (⟨"java/lang/Math", "min", "(II)I"⟩ : MethodName) jdk_29_method_69_code 2 (some .int) :: ws) ({ frames := 0, cells := 0, slots := 0, locals := 0 } : Room)) (fun aA U => aA = #[(.int 16), (.int 34)] ∧ Z.Warmed39 U.vm ∧ U.heap = h0) (fun _ _ _ _ _ => True) (fun _ U o U' => ∃ v L, o = .returned v ∧ Q_min_2 Z h0 n0 v U'.heap L ∧ FrameEnd U o U' L ({ frames := 0, cells := 0, slots := 0, locals := 0 } : Room).cells ({ frames := 0, cells := 0, slots := 0, locals := 0 } : Room).slots) := by
  refine MetFree.of_bodySF (Jvm.Free.JP.mathPlain rfl (by decide +kernel)) hisR ?_
  intro p e s m args below meth c s₁ Bd hml0 hP hK
  obtain ⟨rfl, hZ, hh⟩ := hP
  have hx := Bd.exec
  have hby := Bd.bytes
  have hlk : meth.locks = false := BodyLoose.notSynchronized Bd
  have hml : c.maxLocals = 2 := hml0
  have hown : s.vm.findClass "java/lang/Math" = some m.cls := findClass_of_methodNamed Bd.named
  have hnm := (name_of_methodNamed Bd.named Bd.method).1
  have X0 : Stand p l e ({ frames := 0, cells := 0, slots := 0, locals := 0 } : Room) s m #[(.int 16), (.int 34)] below meth c s₁ [] 0 0 := Stand.of_body Bd
  have e0 : s₁.heap = h0 := by rw [← hh, Bd.state]; rfl
  have N0 := Fr.nil n0
  show oG p e below (own_K s (Q_min_2 Z h0 n0) ({ frames := 0, cells := 0, slots := 0, locals := 0 } : Room).cells ({ frames := 0, cells := 0, slots := 0, locals := 0 } : Room).slots) (s₁.setTop (entryFrame m #[(.int 16), (.int 34)] 2))
  rw [(by first | (simp [entryFrame, mkF, argsToLocals, Value.category]; done) | rfl : entryFrame m #[(.int 16), (.int 34)] 2 = mkF m 0 #[sI 16, sI 34] [])]
  show oG p e below _ (s₁.setTop (mkF m 0 #[sI 16, sI 34] []))
  refine og (fun _ hr => XS.iloadN X0.here hx rfl (hb hby dc33_0) rfl (XS.iloadN X0.here hx rfl (hb hby dc33_1) rfl (XS.icmpNo X0.here hx rfl (hb hby dc33_2) rfl (flt (by decide)).2.2.1 (XS.iloadN X0.here hx rfl (hb hby dc33_5) rfl (XS.goto X0.here hx rfl (pc0 := 6) (pc' := 10) rfl (hb hby dc33_6) (by decide) (by decide) hr))))) ?_
  show oG p e below _ (s₁.setTop (mkF m 10 #[sI 16, sI 34] [(.int 16)]))
  exact own_retI X0 hx hlk Bd.returns (hb hby dc33_10) (by decide) (by decide) ⟨rfl, N0, e0⟩
theorem own_pd8 : parseMethodDescriptor "(II)I" = some ⟨[.int, .int], some .int⟩ := by decide +kernel
theorem dc43_28 : decode jdk_65_method_121_code 28 = .ok (.invokestatic 150, 3) := by decide +kernel
theorem dc43_31 : decode jdk_65_method_121_code 31 = .ok (.aload_n 2, 1) := by decide +kernel
theorem dc43_32 : decode jdk_65_method_121_code 32 = .ok (.areturn, 1) := by decide +kernel
theorem own_pn_java_util_Arrays : plainName "java/util/Arrays" = true := by first | (simp [plainName, overriddenIn]; done) | decide +kernel
def Q_co (Z : State) (va_ : List Value) (h0 : Heap) (n0 : Nat) (v : Option Value) (h : Heap) (L : List Loc) : Prop := (∃ (a : Addr) (k : ClassId), v = some (.ref a) ∧ Fr n0 L ∧ Keep h0 h [] ∧ n0 ≤ a ∧ h0.size ≤ a ∧ Exa Z h a "[B" ∧ Arv Z h a k .byte (34 : Int32) (own_grow va_) (.int 0))
set_option maxRecDepth 65536 in
set_option maxHeartbeats 40000000 in
theorem rm_co (l : Launch) (Z : State) (a0 : Array Value) (hw : ∀ d ∈ tables_1, d.before a0 Z = true) (ws : List Jvm.Cond) (ar_ : Addr) (ka_ : ClassId) (va_ : List Value) (h0 : Heap) (n0 : Nat) (Z0 : n0 ≤ h0.size) (Ka_ : Arv Z h0 ar_ ka_ .byte (16 : Int32) va_ (.int 0)) :
    MetFree l (⟨"java/util/Arrays", "copyOf", "([BI)[B"⟩ : MethodName) (head1 (Jvm.Cond.code (⟨"java/util/Arrays", "copyOf", "([BI)[B"⟩ : MethodName) jdk_65_method_121_code 3 (some (.array .byte)) :: ws) ({ frames := 1, cells := 1, slots := 34, locals := 40 } : Room)) (fun aA U => aA = #[(.ref ar_), (.int 34)] ∧ Z.Warmed39 U.vm ∧ U.heap = h0) (fun _ _ _ _ _ => True) (fun _ U o U' => ∃ v L, o = .returned v ∧ Q_co Z va_ h0 n0 v U'.heap L ∧ FrameEnd U o U' L ({ frames := 1, cells := 1, slots := 34, locals := 40 } : Room).cells ({ frames := 1, cells := 1, slots := 34, locals := 40 } : Room).slots) := by
  refine MetFree.of_bodySF (plainFor_of_name own_pn_java_util_Arrays) hisR ?_
  intro p e s m args below meth c s₁ Bd hml0 hP hK
  obtain ⟨rfl, hZ, hh⟩ := hP
  have hx := Bd.exec
  have hby := Bd.bytes
  have hlk : meth.locks = false := BodyLoose.notSynchronized Bd
  have hml : c.maxLocals = 3 := hml0
  have hown : s.vm.findClass "java/util/Arrays" = some m.cls := findClass_of_methodNamed Bd.named
  have hnm := (name_of_methodNamed Bd.named Bd.method).1
  have X0 : Stand p l e ({ frames := 1, cells := 1, slots := 34, locals := 40 } : Room) s m #[(.ref ar_), (.int 34)] below meth c s₁ [] 0 0 := Stand.of_body Bd
  have e0 : s₁.heap = h0 := by rw [← hh, Bd.state]; rfl
  have N0 := Fr.nil n0
  have K0 : Keep h0 h0 [] := Keep.refl _ _
  show oG p e below (own_K s (Q_co Z va_ h0 n0) ({ frames := 1, cells := 1, slots := 34, locals := 40 } : Room).cells ({ frames := 1, cells := 1, slots := 34, locals := 40 } : Room).slots) (s₁.setTop (entryFrame m #[(.ref ar_), (.int 34)] 3))
  rw [(by first | (simp [entryFrame, mkF, argsToLocals, Value.category]; done) | rfl : entryFrame m #[(.ref ar_), (.int 34)] 3 = mkF m 0 #[sR ar_, sI 34, sU] [])]
  show oG p e below _ (s₁.setTop (mkF m 0 #[sR ar_, sI 34, sU] []))
  refine og (fun _ hr => XS.iloadN X0.here hx rfl (hb hby dc43_0) rfl (XS.aloadN X0.here hx rfl (hb hby dc43_1) rfl rfl (own_alen X0 hx hZ e0 Ka_ rfl rfl (hb hby dc43_2) (XS.icmpYes X0.here hx rfl (pc0 := 3) (pc' := 14) rfl (hb hby dc43_3) rfl (feq (by decide)).2 (by decide) (by decide) (XS.iloadN X0.here hx rfl (hb hby dc43_14) rfl hr))))) ?_
  show oG p e below _ (s₁.setTop (mkF m 15 #[sR ar_, sI 34, sU] [(.int 34)]))
  obtain ⟨T1, h1, k1, X1, e1, E1, A1, EA1, st1⟩ := newPE X0 hx hZ (hw _ (own_m 19 rfl)) e0 (g := (mkF m 15 #[sR ar_, sI 34, sU] [(.int 34)])) rfl (hb hby dc43_15) rfl (by decide) (cap := 34) (by decide) (by decide) (by decide) (by decide) (ad := "[B") (by decide)
  obtain ⟨b1, g1⟩ : ∃ z, z = h0.size := ⟨_, rfl⟩
  rw [← g1] at A1 EA1 st1
  have ge2 : n0 ≤ b1 := Nat.le_trans Z0 (Nat.le_of_eq g1.symm)
  have sz3 : h0.size ≤ b1 := Nat.le_trans K0.1 (Nat.le_of_eq g1.symm)
  refine og st1 ?_
  have f4 : Arv Z h1 b1 k1 .byte (34 : Int32) [(.int 0), (.int 0), (.int 0), (.int 0), (.int 0), (.int 0), (.int 0), (.int 0), (.int 0), (.int 0), (.int 0), (.int 0), (.int 0), (.int 0), (.int 0), (.int 0), (.int 0), (.int 0), (.int 0), (.int 0), (.int 0), (.int 0), (.int 0), (.int 0), (.int 0), (.int 0), (.int 0), (.int 0), (.int 0), (.int 0), (.int 0), (.int 0), (.int 0), (.int 0)] (.int 0) := (Arv.new A1 (by decide)).pad (pad_rep [] (.int 0) 34)
  show oG p e below _ (T1.setTop (mkF m 17 #[sR ar_, sI 34, sU] [(.ref b1)]))
  have f5 := (Ka_.ext E1)
  refine og (fun _ hr => XS.astoreN X1.here hx rfl (hb hby dc43_17) rfl rfl (l' := #[sR ar_, sI 34, sR b1]) rfl (XS.aloadN X1.here hx rfl (hb hby dc43_18) rfl rfl (XS.iconst X1.here hx rfl (hb hby dc43_19) (XS.aloadN X1.here hx rfl (hb hby dc43_20) rfl rfl (XS.iconst X1.here hx rfl (hb hby dc43_21) (XS.aloadN X1.here hx rfl (hb hby dc43_22) rfl rfl (own_alen X1 hx hZ e1 f5 rfl rfl (hb hby dc43_23) (XS.iloadN X1.here hx rfl (hb hby dc43_24) rfl hr)))))))) ?_
  show oG p e below _ (T1.setTop (mkF m 25 #[sR ar_, sI 34, sR b1] [(.int 34), (.int 16), (.int 0), (.ref b1), (.int 0), (.ref ar_)]))
  have Z7 := (Nat.le_trans Z0 E1.1)
  refine own_cs X1 hx hZ hown (hw _ (own_m 176 rfl)) (hw _ (own_m 177 rfl)) (hw _ (own_m 178 rfl)) (hw _ (own_m 179 rfl)) (by decide) (rm := { frames := 0, cells := 0, slots := 0, locals := 0 }) (rm_min_2 l Z a0 hw []  h1 n0 Z7 ) (by decide) (W := 4) (by decide) (by decide) (by decide) e1 (by rw [hml]; rfl) (argsL := [(.int 16), (.int 34)]) (lenOf own_pd8 rfl) (rest := [(.int 0), (.ref b1), (.int 0), (.ref ar_)]) rfl rfl (Nat.le_of_eq rfl) (hb hby dc43_25) ?_
  intro _ T6 L6 X6 hQ6
  obtain ⟨rfl, N6q, e6⟩ := hQ6
  have N6 := Fr.app N0 N6q
  show oG p e below _ (T6.setTop (mkF m 28 #[sR ar_, sI 34, sR b1] [(.int 16), (.int 0), (.ref b1), (.int 0), (.ref ar_)]))
  obtain ⟨T8, h8, L8, X8, e8, N8, K8, A8, st8⟩ := cpA X6 hx hZ hown (hw _ (own_m 180 rfl)) (hw _ (own_m 113 rfl)) (hw _ (own_m 111 rfl)) (hw _ (own_m 112 rfl)) e6 f5 f4 (us := own_subv va_ 0 16) (Or.inl ⟨rfl, rfl⟩) (by decide) (by decide) (by decide) (by decide) (by decide) rfl (by decide) N6 ge2 (g := (mkF m 28 #[sR ar_, sI 34, sR b1] [(.int 16), (.int 0), (.ref b1), (.int 0), (.ref ar_)])) rfl (by rw [hml]; rfl) rfl (hb hby dc43_28) (by decide) (W := 0) (by show 2 * 0 + _ ≤ _; exact Nat.le_of_eq rfl) (by decide)
  refine og st8 ?_
  have f9 : Arv Z h8 b1 k1 .byte (34 : Int32) (own_grow va_) (.int 0) := A8
  show oG p e below _ (T8.setTop (mkF m 31 #[sR ar_, sI 34, sR b1] []))
  refine og (fun _ hr => XS.aloadN X8.here hx rfl (hb hby dc43_31) rfl rfl hr) ?_
  show oG p e below _ (T8.setTop (mkF m 32 #[sR ar_, sI 34, sR b1] [(.ref b1)]))
  have f10 := (EA1.keep K8)
  have K11 := ((K0.ext E1).trans K8 (allS (Or.inr sz3) all0))
  exact own_retR X8 hx hlk Bd.returns rfl rfl (hb hby dc43_32) (by decide) (by decide) (by rw [e8]; exact ⟨b1, k1, rfl, N8, K11, ge2, sz3, f10, f9⟩)
theorem dc15_0 : decode jdk_68_method_9_code 0 = .ok (.aload_n 0, 1) := by decide +kernel
theorem dc15_1 : decode jdk_68_method_9_code 1 = .ok (.getfield 15, 3) := by decide +kernel
theorem dc15_4 : decode jdk_68_method_9_code 4 = .ok (.arraylength, 1) := by decide +kernel
theorem dc15_5 : decode jdk_68_method_9_code 5 = .ok (.aload_n 0, 1) := by decide +kernel
theorem dc15_6 : decode jdk_68_method_9_code 6 = .ok (.getfield 22, 3) := by decide +kernel
theorem dc15_9 : decode jdk_68_method_9_code 9 = .ok (.ishr, 1) := by decide +kernel
theorem dc15_10 : decode jdk_68_method_9_code 10 = .ok (.istore_n 2, 1) := by decide +kernel
theorem dc15_11 : decode jdk_68_method_9_code 11 = .ok (.iload_n 1, 1) := by decide +kernel
theorem dc15_12 : decode jdk_68_method_9_code 12 = .ok (.iload_n 2, 1) := by decide +kernel
theorem dc15_13 : decode jdk_68_method_9_code 13 = .ok (.isub, 1) := by decide +kernel
theorem dc15_14 : decode jdk_68_method_9_code 14 = .ok (.ifCond .le 24, 3) := by decide +kernel
theorem dc15_38 : decode jdk_68_method_9_code 38 = .ok (.return_, 1) := by decide +kernel
def Q_en (Z : State) (h0 : Heap) (n0 : Nat) (v : Option Value) (h : Heap) (L : List Loc) : Prop := v = none ∧ Fr n0 L ∧ h = h0
set_option maxRecDepth 65536 in
set_option maxHeartbeats 40000000 in
theorem rm_en (l : Launch) (Z : State) (a0 : Array Value) (hw : ∀ d ∈ tables_1, d.before a0 Z = true) (ws : List Jvm.Cond) (sb_ : Addr) (nd_ : Int32) (cn_ : Int32) (ar_ : Addr) (ka_ : ClassId) (cap_ : Int32) (va_ : List Value) (h0 : Heap) (n0 : Nat) (Z0 : n0 ≤ h0.size) (Eb_ : Exa Z h0 sb_ "java/lang/StringBuilder") (Vb_ : Fld Z h0 sb_ "java/lang/AbstractStringBuilder" "value" "[B" (.ref ar_)) (Cb_ : Fld Z h0 sb_ "java/lang/AbstractStringBuilder" "coder" "B" (.int 0)) (Nb_ : Fld Z h0 sb_ "java/lang/AbstractStringBuilder" "count" "I" (.int cn_)) (Ka_ : Arv Z h0 ar_ ka_ .byte cap_ va_ (.int 0)) (hng_ : ¬ ((0 : Int32) < (nd_ - (cap_ >>> ((0 : Int32) &&& 31))))) :
    MetFree l (⟨"java/lang/AbstractStringBuilder", "ensureCapacityInternal", "(I)V"⟩ : MethodName) (head1 (Jvm.Cond.code (⟨"java/lang/AbstractStringBuilder", "ensureCapacityInternal", "(I)V"⟩ : MethodName) jdk_68_method_9_code 3 none :: ws) ({ frames := 0, cells := 0, slots := 0, locals := 0 } : Room)) (fun aA U => aA = #[(.ref sb_), (.int nd_)] ∧ Z.Warmed39 U.vm ∧ U.heap = h0) (fun _ _ _ _ _ => True) (fun _ U o U' => ∃ v L, o = .returned v ∧ Q_en Z h0 n0 v U'.heap L ∧ FrameEnd U o U' L ({ frames := 0, cells := 0, slots := 0, locals := 0 } : Room).cells ({ frames := 0, cells := 0, slots := 0, locals := 0 } : Room).slots) := by
  refine MetFree.of_bodySF (plainFor_of_name own_pn_java_lang_AbstractStringBuilder) hisR ?_
  intro p e s m args below meth c s₁ Bd hml0 hP hK
  obtain ⟨rfl, hZ, hh⟩ := hP
  have hx := Bd.exec
  have hby := Bd.bytes
  have hlk : meth.locks = false := BodyLoose.notSynchronized Bd
  have hml : c.maxLocals = 3 := hml0
  have hown : s.vm.findClass "java/lang/AbstractStringBuilder" = some m.cls := findClass_of_methodNamed Bd.named
  have hnm := (name_of_methodNamed Bd.named Bd.method).1
  have X0 : Stand p l e ({ frames := 0, cells := 0, slots := 0, locals := 0 } : Room) s m #[(.ref sb_), (.int nd_)] below meth c s₁ [] 0 0 := Stand.of_body Bd
  have e0 : s₁.heap = h0 := by rw [← hh, Bd.state]; rfl
  have N0 := Fr.nil n0
  show oG p e below (own_K s (Q_en Z h0 n0) ({ frames := 0, cells := 0, slots := 0, locals := 0 } : Room).cells ({ frames := 0, cells := 0, slots := 0, locals := 0 } : Room).slots) (s₁.setTop (entryFrame m #[(.ref sb_), (.int nd_)] 3))
  rw [(by first | (simp [entryFrame, mkF, argsToLocals, Value.category]; done) | rfl : entryFrame m #[(.ref sb_), (.int nd_)] 3 = mkF m 0 #[sR sb_, sI nd_, sU] [])]
  show oG p e below _ (s₁.setTop (mkF m 0 #[sR sb_, sI nd_, sU] []))
  refine og (fun _ hr => XS.aloadN X0.here hx rfl (hb hby dc15_0) rfl rfl hr) ?_
  show oG p e below _ (s₁.setTop (mkF m 1 #[sR sb_, sI nd_, sU] [(.ref sb_)]))
  obtain ⟨T1, X1, e1, st1⟩ := getF X0 hx hZ hown (host := "") (Or.inl (hw _ (own_m 60 rfl))) Via.refl e0 Vb_ (g := (mkF m 1 #[sR sb_, sI nd_, sU] [(.ref sb_)])) rfl rfl (hb hby dc15_1)
  refine og st1 ?_
  show oG p e below _ (T1.setTop (mkF m 4 #[sR sb_, sI nd_, sU] [(.ref ar_)]))
  refine og (fun _ hr => own_alen X1 hx hZ e1 Ka_ rfl rfl (hb hby dc15_4) (XS.aloadN X1.here hx rfl (hb hby dc15_5) rfl rfl hr)) ?_
  show oG p e below _ (T1.setTop (mkF m 6 #[sR sb_, sI nd_, sU] [(.ref sb_), (.int cap_)]))
  obtain ⟨T2, X2, e2, st2⟩ := getF X1 hx hZ hown (host := "") (Or.inl (hw _ (own_m 62 rfl))) Via.refl e1 Cb_ (g := (mkF m 6 #[sR sb_, sI nd_, sU] [(.ref sb_), (.int cap_)])) rfl rfl (hb hby dc15_6)
  refine og st2 ?_
  show oG p e below _ (T2.setTop (mkF m 9 #[sR sb_, sI nd_, sU] [(.int 0), (.int cap_)]))
  refine og (fun _ hr => XS.ishr X2.here hx rfl (hb hby dc15_9) rfl (XS.istoreN X2.here hx rfl (hb hby dc15_10) rfl (l' := #[sR sb_, sI nd_, sI (cap_ >>> ((0 : Int32) &&& 31))]) rfl (XS.iloadN X2.here hx rfl (hb hby dc15_11) rfl (XS.iloadN X2.here hx rfl (hb hby dc15_12) rfl (XS.isub X2.here hx rfl (hb hby dc15_13) rfl hr))))) ?_
  show oG p e below _ (T2.setTop (mkF m 14 #[sR sb_, sI nd_, sI (cap_ >>> ((0 : Int32) &&& 31))] [(.int (nd_ - (cap_ >>> ((0 : Int32) &&& 31))))]))
  refine og (fun _ hr => XS.ifYes X2.here hx rfl (pc0 := 14) (pc' := 38) rfl (hb hby dc15_14) rfl ((if0 _ _).trans (flt hng_).2.2.2) (by decide) (by decide) hr) ?_
  show oG p e below _ (T2.setTop (mkF m 38 #[sR sb_, sI nd_, sI (cap_ >>> ((0 : Int32) &&& 31))] []))
  exact own_ret0 X2 hx hlk Bd.returns (hb hby dc15_38) (by decide) (by decide) ⟨rfl, N0, e2⟩
theorem dc15_17 : decode jdk_68_method_9_code 17 = .ok (.aload_n 0, 1) := by decide +kernel
theorem dc15_18 : decode jdk_68_method_9_code 18 = .ok (.aload_n 0, 1) := by decide +kernel
theorem dc15_19 : decode jdk_68_method_9_code 19 = .ok (.getfield 15, 3) := by decide +kernel
theorem dc15_22 : decode jdk_68_method_9_code 22 = .ok (.aload_n 0, 1) := by decide +kernel
theorem dc15_23 : decode jdk_68_method_9_code 23 = .ok (.iload_n 1, 1) := by decide +kernel
theorem dc15_24 : decode jdk_68_method_9_code 24 = .ok (.invokevirtual 104, 3) := by decide +kernel
theorem dc40_0 : decode jdk_68_method_10_code 0 = .ok (.aload_n 0, 1) := by decide +kernel
theorem dc40_1 : decode jdk_68_method_10_code 1 = .ok (.getfield 15, 3) := by decide +kernel
theorem dc40_4 : decode jdk_68_method_10_code 4 = .ok (.arraylength, 1) := by decide +kernel
theorem dc40_5 : decode jdk_68_method_10_code 5 = .ok (.istore_n 2, 1) := by decide +kernel
theorem dc40_6 : decode jdk_68_method_10_code 6 = .ok (.iload_n 1, 1) := by decide +kernel
theorem dc40_7 : decode jdk_68_method_10_code 7 = .ok (.aload_n 0, 1) := by decide +kernel
theorem dc40_8 : decode jdk_68_method_10_code 8 = .ok (.getfield 22, 3) := by decide +kernel
theorem dc40_11 : decode jdk_68_method_10_code 11 = .ok (.ishl, 1) := by decide +kernel
theorem dc40_12 : decode jdk_68_method_10_code 12 = .ok (.istore_n 3, 1) := by decide +kernel
theorem dc40_13 : decode jdk_68_method_10_code 13 = .ok (.iload_n 3, 1) := by decide +kernel
theorem dc40_14 : decode jdk_68_method_10_code 14 = .ok (.iload_n 2, 1) := by decide +kernel
theorem dc40_15 : decode jdk_68_method_10_code 15 = .ok (.isub, 1) := by decide +kernel
theorem dc40_16 : decode jdk_68_method_10_code 16 = .ok (.istore 4, 2) := by decide +kernel
theorem dc40_18 : decode jdk_68_method_10_code 18 = .ok (.iload_n 2, 1) := by decide +kernel
theorem dc40_19 : decode jdk_68_method_10_code 19 = .ok (.iload 4, 2) := by decide +kernel
theorem dc40_21 : decode jdk_68_method_10_code 21 = .ok (.iload_n 2, 1) := by decide +kernel
theorem dc40_22 : decode jdk_68_method_10_code 22 = .ok (.iconst 2, 1) := by decide +kernel
theorem dc40_23 : decode jdk_68_method_10_code 23 = .ok (.aload_n 0, 1) := by decide +kernel
theorem dc40_24 : decode jdk_68_method_10_code 24 = .ok (.getfield 22, 3) := by decide +kernel
theorem dc40_27 : decode jdk_68_method_10_code 27 = .ok (.ishl, 1) := by decide +kernel
theorem dc40_28 : decode jdk_68_method_10_code 28 = .ok (.iadd, 1) := by decide +kernel
theorem dc40_29 : decode jdk_68_method_10_code 29 = .ok (.invokestatic 114, 3) := by decide +kernel
theorem dc41_0 : decode jdk_48_method_27_code 0 = .ok (.iload_n 0, 1) := by decide +kernel
theorem dc41_1 : decode jdk_48_method_27_code 1 = .ok (.iload_n 1, 1) := by decide +kernel
theorem dc41_2 : decode jdk_48_method_27_code 2 = .ok (.iload_n 2, 1) := by decide +kernel
theorem dc41_3 : decode jdk_48_method_27_code 3 = .ok (.invokestatic 194, 3) := by decide +kernel
theorem dc42_0 : decode jdk_29_method_65_code 0 = .ok (.iload_n 0, 1) := by decide +kernel
theorem dc42_1 : decode jdk_29_method_65_code 1 = .ok (.iload_n 1, 1) := by decide +kernel
theorem dc42_2 : decode jdk_29_method_65_code 2 = .ok (.if_icmp .lt 7, 3) := by decide +kernel
theorem dc42_9 : decode jdk_29_method_65_code 9 = .ok (.iload_n 1, 1) := by decide +kernel
theorem dc42_10 : decode jdk_29_method_65_code 10 = .ok (.ireturn, 1) := by decide +kernel
def Q_max_3 (Z : State) (h0 : Heap) (n0 : Nat) (v : Option Value) (h : Heap) (L : List Loc) : Prop := v = some (.int 18) ∧ Fr n0 L ∧ h = h0
set_option maxRecDepth 65536 in
set_option maxHeartbeats 40000000 in
theorem rm_max_3 (l : Launch) (Z : State) (a0 : Array Value) (hw : ∀ d ∈ tables_1, d.before a0 Z = true) (ws : List Jvm.Cond) (y0 : Int32) (h0 : Heap) (n0 : Nat) (Z0 : n0 ≤ h0.size) (hb0 : y0 < (18 : Int32)) :
    MetFree l (⟨"java/lang/Math", "max", "(II)I"⟩ : MethodName) (head1 (Jvm.Cond.code (⟨"java/lang/Math", "max", "(II)I"⟩ : MethodName) jdk_29_method_65_code 2 (some .int) :: ws) ({ frames := 0, cells := 0, slots := 0, locals := 0 } : Room)) (fun aA U => aA = #[(.int y0), (.int 18)] ∧ Z.Warmed39 U.vm ∧ U.heap = h0) (fun _ _ _ _ _ => True) (fun _ U o U' => ∃ v L, o = .returned v ∧ Q_max_3 Z h0 n0 v U'.heap L ∧ FrameEnd U o U' L ({ frames := 0, cells := 0, slots := 0, locals := 0 } : Room).cells ({ frames := 0, cells := 0, slots := 0, locals := 0 } : Room).slots) := by
  refine MetFree.of_bodySF (Jvm.Free.JP.mathPlain rfl (by decide +kernel)) hisR ?_
  intro p e s m args below meth c s₁ Bd hml0 hP hK
  obtain ⟨rfl, hZ, hh⟩ := hP
  have hx := Bd.exec
  have hby := Bd.bytes
  have hlk : meth.locks = false := BodyLoose.notSynchronized Bd
  have hml : c.maxLocals = 2 := hml0
  have hown : s.vm.findClass "java/lang/Math" = some m.cls := findClass_of_methodNamed Bd.named
  have hnm := (name_of_methodNamed Bd.named Bd.method).1
  have X0 : Stand p l e ({ frames := 0, cells := 0, slots := 0, locals := 0 } : Room) s m #[(.int y0), (.int 18)] below meth c s₁ [] 0 0 := Stand.of_body Bd
  have e0 : s₁.heap = h0 := by rw [← hh, Bd.state]; rfl
  have N0 := Fr.nil n0
  show oG p e below (own_K s (Q_max_3 Z h0 n0) ({ frames := 0, cells := 0, slots := 0, locals := 0 } : Room).cells ({ frames := 0, cells := 0, slots := 0, locals := 0 } : Room).slots) (s₁.setTop (entryFrame m #[(.int y0), (.int 18)] 2))
  rw [(by first | (simp [entryFrame, mkF, argsToLocals, Value.category]; done) | rfl : entryFrame m #[(.int y0), (.int 18)] 2 = mkF m 0 #[sI y0, sI 18] [])]
  show oG p e below _ (s₁.setTop (mkF m 0 #[sI y0, sI 18] []))
  refine og (fun _ hr => XS.iloadN X0.here hx rfl (hb hby dc42_0) rfl (XS.iloadN X0.here hx rfl (hb hby dc42_1) rfl hr)) ?_
  show oG p e below _ (s₁.setTop (mkF m 2 #[sI y0, sI 18] [(.int 18), (.int y0)]))
  refine og (fun _ hr => XS.icmpYes X0.here hx rfl (pc0 := 2) (pc' := 9) rfl (hb hby dc42_2) rfl (tlt hb0).1 (by decide) (by decide) hr) ?_
  show oG p e below _ (s₁.setTop (mkF m 9 #[sI y0, sI 18] []))
  refine og (fun _ hr => XS.iloadN X0.here hx rfl (hb hby dc42_9) rfl hr) ?_
  show oG p e below _ (s₁.setTop (mkF m 10 #[sI y0, sI 18] [(.int 18)]))
  exact own_retI X0 hx hlk Bd.returns (hb hby dc42_10) (by decide) (by decide) ⟨rfl, N0, e0⟩
theorem dc41_6 : decode jdk_48_method_27_code 6 = .ok (.iadd, 1) := by decide +kernel
theorem dc41_7 : decode jdk_48_method_27_code 7 = .ok (.istore_n 3, 1) := by decide +kernel
theorem dc41_8 : decode jdk_48_method_27_code 8 = .ok (.iconst 0, 1) := by decide +kernel
theorem dc41_9 : decode jdk_48_method_27_code 9 = .ok (.iload_n 3, 1) := by decide +kernel
theorem dc41_10 : decode jdk_48_method_27_code 10 = .ok (.if_icmp .ge 11, 3) := by decide +kernel
theorem dc41_13 : decode jdk_48_method_27_code 13 = .ok (.iload_n 3, 1) := by decide +kernel
theorem dc41_14 : decode jdk_48_method_27_code 14 = .ok (.ldc 200, 2) := by decide +kernel
theorem dc41_16 : decode jdk_48_method_27_code 16 = .ok (.if_icmp .gt 5, 3) := by decide +kernel
theorem dc41_19 : decode jdk_48_method_27_code 19 = .ok (.iload_n 3, 1) := by decide +kernel
theorem dc41_20 : decode jdk_48_method_27_code 20 = .ok (.ireturn, 1) := by decide +kernel
theorem own_pn_jdk_internal_util_ArraysSupport : plainName "jdk/internal/util/ArraysSupport" = true := by first | (simp [plainName, overriddenIn]; done) | decide +kernel
def Q_newLength_4 (Z : State) (h0 : Heap) (n0 : Nat) (v : Option Value) (h : Heap) (L : List Loc) : Prop := v = some (.int 34) ∧ Fr n0 L ∧ h = h0
set_option maxRecDepth 65536 in
set_option maxHeartbeats 40000000 in
theorem rm_newLength_4 (l : Launch) (Z : State) (a0 : Array Value) (hw : ∀ d ∈ tables_1, d.before a0 Z = true) (ws : List Jvm.Cond) (y0 : Int32) (h0 : Heap) (n0 : Nat) (Z0 : n0 ≤ h0.size) (hb0 : y0 < (18 : Int32)) :
    MetFree l (⟨"jdk/internal/util/ArraysSupport", "newLength", "(III)I"⟩ : MethodName) (head1 (Jvm.Cond.code (⟨"jdk/internal/util/ArraysSupport", "newLength", "(III)I"⟩ : MethodName) jdk_48_method_27_code 4 (some .int) :: ws) ({ frames := 1, cells := 0, slots := 0, locals := 14 } : Room)) (fun aA U => aA = #[(.int 16), (.int y0), (.int 18)] ∧ Z.Warmed39 U.vm ∧ U.heap = h0) (fun _ _ _ _ _ => True) (fun _ U o U' => ∃ v L, o = .returned v ∧ Q_newLength_4 Z h0 n0 v U'.heap L ∧ FrameEnd U o U' L ({ frames := 1, cells := 0, slots := 0, locals := 14 } : Room).cells ({ frames := 1, cells := 0, slots := 0, locals := 14 } : Room).slots) := by
  refine MetFree.of_bodySF (plainFor_of_name own_pn_jdk_internal_util_ArraysSupport) hisR ?_
  intro p e s m args below meth c s₁ Bd hml0 hP hK
  obtain ⟨rfl, hZ, hh⟩ := hP
  have hx := Bd.exec
  have hby := Bd.bytes
  have hlk : meth.locks = false := BodyLoose.notSynchronized Bd
  have hml : c.maxLocals = 4 := hml0
  have hown : s.vm.findClass "jdk/internal/util/ArraysSupport" = some m.cls := findClass_of_methodNamed Bd.named
  have hnm := (name_of_methodNamed Bd.named Bd.method).1
  have X0 : Stand p l e ({ frames := 1, cells := 0, slots := 0, locals := 14 } : Room) s m #[(.int 16), (.int y0), (.int 18)] below meth c s₁ [] 0 0 := Stand.of_body Bd
  have e0 : s₁.heap = h0 := by rw [← hh, Bd.state]; rfl
  have N0 := Fr.nil n0
  show oG p e below (own_K s (Q_newLength_4 Z h0 n0) ({ frames := 1, cells := 0, slots := 0, locals := 14 } : Room).cells ({ frames := 1, cells := 0, slots := 0, locals := 14 } : Room).slots) (s₁.setTop (entryFrame m #[(.int 16), (.int y0), (.int 18)] 4))
  rw [(by first | (simp [entryFrame, mkF, argsToLocals, Value.category]; done) | rfl : entryFrame m #[(.int 16), (.int y0), (.int 18)] 4 = mkF m 0 #[sI 16, sI y0, sI 18, sU] [])]
  show oG p e below _ (s₁.setTop (mkF m 0 #[sI 16, sI y0, sI 18, sU] []))
  refine og (fun _ hr => XS.iloadN X0.here hx rfl (hb hby dc41_0) rfl (XS.iloadN X0.here hx rfl (hb hby dc41_1) rfl (XS.iloadN X0.here hx rfl (hb hby dc41_2) rfl hr))) ?_
  show oG p e below _ (s₁.setTop (mkF m 3 #[sI 16, sI y0, sI 18, sU] [(.int 18), (.int y0), (.int 16)]))
  refine own_cs X0 hx hZ hown (hw _ (own_m 238 rfl)) (hw _ (own_m 239 rfl)) (hw _ (own_m 178 rfl)) (hw _ (own_m 240 rfl)) (by decide) (rm := { frames := 0, cells := 0, slots := 0, locals := 0 }) (rm_max_3 l Z a0 hw [] y0 h0 n0 Z0 hb0) (by decide) (W := 1) (by decide) (by decide) (by decide) e0 (by rw [hml]; rfl) (argsL := [(.int y0), (.int 18)]) (lenOf own_pd8 rfl) (rest := [(.int 16)]) rfl rfl (Nat.le_of_eq rfl) (hb hby dc41_3) ?_
  intro _ T1 L1 X1 hQ1
  obtain ⟨rfl, N1q, e1⟩ := hQ1
  have N1 := Fr.app N0 N1q
  show oG p e below _ (T1.setTop (mkF m 6 #[sI 16, sI y0, sI 18, sU] [(.int 18), (.int 16)]))
  refine og (fun _ hr => XS.iadd X1.here hx rfl (hb hby dc41_6) rfl (XS.istoreN X1.here hx rfl (hb hby dc41_7) rfl (l' := #[sI 16, sI y0, sI 18, sI 34]) rfl (XS.iconst X1.here hx rfl (hb hby dc41_8) (XS.iloadN X1.here hx rfl (hb hby dc41_9) rfl (XS.icmpNo X1.here hx rfl (hb hby dc41_10) rfl (tlt (by decide)).2.1 (XS.iloadN X1.here hx rfl (hb hby dc41_13) rfl hr)))))) ?_
  show oG p e below _ (T1.setTop (mkF m 14 #[sI 16, sI y0, sI 18, sI 34] [(.int 34)]))
  refine og (X1.ldcInt hx hown (mvT hZ (hw _ (own_m 241 rfl))) rfl (hb hby dc41_14)) ?_
  show oG p e below _ (T1.setTop (mkF m 16 #[sI 16, sI y0, sI 18, sI 34] [(.int 2147483639), (.int 34)]))
  refine og (fun _ hr => XS.icmpNo X1.here hx rfl (hb hby dc41_16) rfl (flt (by decide)).2.2.1 (XS.iloadN X1.here hx rfl (hb hby dc41_19) rfl hr)) ?_
  show oG p e below _ (T1.setTop (mkF m 20 #[sI 16, sI y0, sI 18, sI 34] [(.int 34)]))
  exact own_retI X1 hx hlk Bd.returns (hb hby dc41_20) (by decide) (by decide) ⟨rfl, N1, e1⟩
theorem own_pd9 : parseMethodDescriptor "(III)I" = some ⟨[.int, .int, .int], some .int⟩ := by decide +kernel
theorem dc40_32 : decode jdk_68_method_10_code 32 = .ok (.istore 5, 2) := by decide +kernel
theorem dc40_34 : decode jdk_68_method_10_code 34 = .ok (.iload 5, 2) := by decide +kernel
theorem dc40_36 : decode jdk_68_method_10_code 36 = .ok (.ldc 39, 2) := by decide +kernel
theorem dc40_38 : decode jdk_68_method_10_code 38 = .ok (.if_icmp .ne 13, 3) := by decide +kernel
theorem dc40_51 : decode jdk_68_method_10_code 51 = .ok (.iload 5, 2) := by decide +kernel
theorem dc40_53 : decode jdk_68_method_10_code 53 = .ok (.aload_n 0, 1) := by decide +kernel
theorem dc40_54 : decode jdk_68_method_10_code 54 = .ok (.getfield 22, 3) := by decide +kernel
theorem dc40_57 : decode jdk_68_method_10_code 57 = .ok (.ishr, 1) := by decide +kernel
theorem dc40_58 : decode jdk_68_method_10_code 58 = .ok (.ireturn, 1) := by decide +kernel
def Q_newCapacity_5 (Z : State) (h0 : Heap) (n0 : Nat) (v : Option Value) (h : Heap) (L : List Loc) : Prop := v = some (.int 34) ∧ Fr n0 L ∧ h = h0
set_option maxRecDepth 65536 in
set_option maxHeartbeats 40000000 in
theorem rm_newCapacity_5 (l : Launch) (Z : State) (a0 : Array Value) (hw : ∀ d ∈ tables_1, d.before a0 Z = true) (ws : List Jvm.Cond) (o0 : Addr) (y0 : Int32) (o1 : Addr) (ls0 : List Value) (kc0 : ClassId) (h0 : Heap) (n0 : Nat) (Z0 : n0 ≤ h0.size) (P0 : Fld Z h0 o0 "java/lang/AbstractStringBuilder" "value" "[B" (.ref o1)) (P1 : Arv Z h0 o1 kc0 .byte (16 : Int32) ls0 (.int 0)) (P2 : Fld Z h0 o0 "java/lang/AbstractStringBuilder" "coder" "B" (.int 0)) (hb0 : ((y0 <<< ((0 : Int32) &&& 31)) - (16 : Int32)) < (18 : Int32)) :
    MetFree l (⟨"java/lang/AbstractStringBuilder", "newCapacity", "(I)I"⟩ : MethodName) (head1 (Jvm.Cond.code (⟨"java/lang/AbstractStringBuilder", "newCapacity", "(I)I"⟩ : MethodName) jdk_68_method_10_code 6 (some .int) :: ws) ({ frames := 2, cells := 0, slots := 0, locals := 29 } : Room)) (fun aA U => aA = #[(.ref o0), (.int y0)] ∧ Z.Warmed39 U.vm ∧ U.heap = h0) (fun _ _ _ _ _ => True) (fun _ U o U' => ∃ v L, o = .returned v ∧ Q_newCapacity_5 Z h0 n0 v U'.heap L ∧ FrameEnd U o U' L ({ frames := 2, cells := 0, slots := 0, locals := 29 } : Room).cells ({ frames := 2, cells := 0, slots := 0, locals := 29 } : Room).slots) := by
  refine MetFree.of_bodySF (plainFor_of_name own_pn_java_lang_AbstractStringBuilder) hisR ?_
  intro p e s m args below meth c s₁ Bd hml0 hP hK
  obtain ⟨rfl, hZ, hh⟩ := hP
  have hx := Bd.exec
  have hby := Bd.bytes
  have hlk : meth.locks = false := BodyLoose.notSynchronized Bd
  have hml : c.maxLocals = 6 := hml0
  have hown : s.vm.findClass "java/lang/AbstractStringBuilder" = some m.cls := findClass_of_methodNamed Bd.named
  have hnm := (name_of_methodNamed Bd.named Bd.method).1
  have X0 : Stand p l e ({ frames := 2, cells := 0, slots := 0, locals := 29 } : Room) s m #[(.ref o0), (.int y0)] below meth c s₁ [] 0 0 := Stand.of_body Bd
  have e0 : s₁.heap = h0 := by rw [← hh, Bd.state]; rfl
  have N0 := Fr.nil n0
  show oG p e below (own_K s (Q_newCapacity_5 Z h0 n0) ({ frames := 2, cells := 0, slots := 0, locals := 29 } : Room).cells ({ frames := 2, cells := 0, slots := 0, locals := 29 } : Room).slots) (s₁.setTop (entryFrame m #[(.ref o0), (.int y0)] 6))
  rw [(by first | (simp [entryFrame, mkF, argsToLocals, Value.category]; done) | rfl : entryFrame m #[(.ref o0), (.int y0)] 6 = mkF m 0 #[sR o0, sI y0, sU, sU, sU, sU] [])]
  show oG p e below _ (s₁.setTop (mkF m 0 #[sR o0, sI y0, sU, sU, sU, sU] []))
  refine og (fun _ hr => XS.aloadN X0.here hx rfl (hb hby dc40_0) rfl rfl hr) ?_
  show oG p e below _ (s₁.setTop (mkF m 1 #[sR o0, sI y0, sU, sU, sU, sU] [(.ref o0)]))
  obtain ⟨T1, X1, e1, st1⟩ := getF X0 hx hZ hown (host := "") (Or.inl (hw _ (own_m 60 rfl))) Via.refl e0 P0 (g := (mkF m 1 #[sR o0, sI y0, sU, sU, sU, sU] [(.ref o0)])) rfl rfl (hb hby dc40_1)
  refine og st1 ?_
  show oG p e below _ (T1.setTop (mkF m 4 #[sR o0, sI y0, sU, sU, sU, sU] [(.ref o1)]))
  refine og (fun _ hr => own_alen X1 hx hZ e1 P1 rfl rfl (hb hby dc40_4) (XS.istoreN X1.here hx rfl (hb hby dc40_5) rfl (l' := #[sR o0, sI y0, sI 16, sU, sU, sU]) rfl (XS.iloadN X1.here hx rfl (hb hby dc40_6) rfl (XS.aloadN X1.here hx rfl (hb hby dc40_7) rfl rfl hr)))) ?_
  show oG p e below _ (T1.setTop (mkF m 8 #[sR o0, sI y0, sI 16, sU, sU, sU] [(.ref o0), (.int y0)]))
  obtain ⟨T2, X2, e2, st2⟩ := getF X1 hx hZ hown (host := "") (Or.inl (hw _ (own_m 62 rfl))) Via.refl e1 P2 (g := (mkF m 8 #[sR o0, sI y0, sI 16, sU, sU, sU] [(.ref o0), (.int y0)])) rfl rfl (hb hby dc40_8)
  refine og st2 ?_
  show oG p e below _ (T2.setTop (mkF m 11 #[sR o0, sI y0, sI 16, sU, sU, sU] [(.int 0), (.int y0)]))
  refine og (fun _ hr => XS.ishl X2.here hx rfl (hb hby dc40_11) rfl (XS.istoreN X2.here hx rfl (hb hby dc40_12) rfl (l' := #[sR o0, sI y0, sI 16, sI (y0 <<< ((0 : Int32) &&& 31)), sU, sU]) rfl (XS.iloadN X2.here hx rfl (hb hby dc40_13) rfl (XS.iloadN X2.here hx rfl (hb hby dc40_14) rfl (XS.isub X2.here hx rfl (hb hby dc40_15) rfl (XS.istore X2.here hx rfl (hb hby dc40_16) rfl (l' := #[sR o0, sI y0, sI 16, sI (y0 <<< ((0 : Int32) &&& 31)), sI ((y0 <<< ((0 : Int32) &&& 31)) - (16 : Int32)), sU]) rfl (XS.iloadN X2.here hx rfl (hb hby dc40_18) rfl (XS.iload X2.here hx rfl (hb hby dc40_19) rfl (XS.iloadN X2.here hx rfl (hb hby dc40_21) rfl (XS.iconst X2.here hx rfl (hb hby dc40_22) (XS.aloadN X2.here hx rfl (hb hby dc40_23) rfl rfl hr))))))))))) ?_
  show oG p e below _ (T2.setTop (mkF m 24 #[sR o0, sI y0, sI 16, sI (y0 <<< ((0 : Int32) &&& 31)), sI ((y0 <<< ((0 : Int32) &&& 31)) - (16 : Int32)), sU] [(.ref o0), (.int 2), (.int 16), (.int ((y0 <<< ((0 : Int32) &&& 31)) - (16 : Int32))), (.int 16)]))
  obtain ⟨T3, X3, e3, st3⟩ := getF X2 hx hZ hown (host := "") (Or.inl (hw _ (own_m 62 rfl))) Via.refl e2 P2 (g := (mkF m 24 #[sR o0, sI y0, sI 16, sI (y0 <<< ((0 : Int32) &&& 31)), sI ((y0 <<< ((0 : Int32) &&& 31)) - (16 : Int32)), sU] [(.ref o0), (.int 2), (.int 16), (.int ((y0 <<< ((0 : Int32) &&& 31)) - (16 : Int32))), (.int 16)])) rfl rfl (hb hby dc40_24)
  refine og st3 ?_
  show oG p e below _ (T3.setTop (mkF m 27 #[sR o0, sI y0, sI 16, sI (y0 <<< ((0 : Int32) &&& 31)), sI ((y0 <<< ((0 : Int32) &&& 31)) - (16 : Int32)), sU] [(.int 0), (.int 2), (.int 16), (.int ((y0 <<< ((0 : Int32) &&& 31)) - (16 : Int32))), (.int 16)]))
  refine og (fun _ hr => XS.ishl X3.here hx rfl (hb hby dc40_27) rfl (XS.iadd X3.here hx rfl (hb hby dc40_28) rfl hr)) ?_
  show oG p e below _ (T3.setTop (mkF m 29 #[sR o0, sI y0, sI 16, sI (y0 <<< ((0 : Int32) &&& 31)), sI ((y0 <<< ((0 : Int32) &&& 31)) - (16 : Int32)), sU] [(.int 18), (.int ((y0 <<< ((0 : Int32) &&& 31)) - (16 : Int32))), (.int 16)]))
  refine own_cs X3 hx hZ hown (hw _ (own_m 234 rfl)) (hw _ (own_m 235 rfl)) (hw _ (own_m 236 rfl)) (hw _ (own_m 237 rfl)) (by decide) (rm := { frames := 1, cells := 0, slots := 0, locals := 14 }) (rm_newLength_4 l Z a0 hw [] ((y0 <<< ((0 : Int32) &&& 31)) - (16 : Int32)) h0 n0 Z0 hb0) (by decide) (W := 0) (by decide) (by decide) (by decide) e3 (by rw [hml]; rfl) (argsL := [(.int 16), (.int ((y0 <<< ((0 : Int32) &&& 31)) - (16 : Int32))), (.int 18)]) (lenOf own_pd9 rfl) (rest := []) rfl rfl (Nat.le_of_eq rfl) (hb hby dc40_29) ?_
  intro _ T4 L4 X4 hQ4
  obtain ⟨rfl, N4q, e4⟩ := hQ4
  have N4 := Fr.app N0 N4q
  show oG p e below _ (T4.setTop (mkF m 32 #[sR o0, sI y0, sI 16, sI (y0 <<< ((0 : Int32) &&& 31)), sI ((y0 <<< ((0 : Int32) &&& 31)) - (16 : Int32)), sU] [(.int 34)]))
  refine og (fun _ hr => XS.istore X4.here hx rfl (hb hby dc40_32) rfl (l' := #[sR o0, sI y0, sI 16, sI (y0 <<< ((0 : Int32) &&& 31)), sI ((y0 <<< ((0 : Int32) &&& 31)) - (16 : Int32)), sI 34]) rfl (XS.iload X4.here hx rfl (hb hby dc40_34) rfl hr)) ?_
  show oG p e below _ (T4.setTop (mkF m 36 #[sR o0, sI y0, sI 16, sI (y0 <<< ((0 : Int32) &&& 31)), sI ((y0 <<< ((0 : Int32) &&& 31)) - (16 : Int32)), sI 34] [(.int 34)]))
  refine og (X4.ldcInt hx hown (mvT hZ (hw _ (own_m 242 rfl))) rfl (hb hby dc40_36)) ?_
  show oG p e below _ (T4.setTop (mkF m 38 #[sR o0, sI y0, sI 16, sI (y0 <<< ((0 : Int32) &&& 31)), sI ((y0 <<< ((0 : Int32) &&& 31)) - (16 : Int32)), sI 34] [(.int 2147483647), (.int 34)]))
  refine og (fun _ hr => XS.icmpYes X4.here hx rfl (pc0 := 38) (pc' := 51) rfl (hb hby dc40_38) rfl (feq (by decide)).2 (by decide) (by decide) (XS.iload X4.here hx rfl (hb hby dc40_51) rfl (XS.aloadN X4.here hx rfl (hb hby dc40_53) rfl rfl hr))) ?_
  show oG p e below _ (T4.setTop (mkF m 54 #[sR o0, sI y0, sI 16, sI (y0 <<< ((0 : Int32) &&& 31)), sI ((y0 <<< ((0 : Int32) &&& 31)) - (16 : Int32)), sI 34] [(.ref o0), (.int 34)]))
  obtain ⟨T5, X5, e5, st5⟩ := getF X4 hx hZ hown (host := "") (Or.inl (hw _ (own_m 62 rfl))) Via.refl e4 P2 (g := (mkF m 54 #[sR o0, sI y0, sI 16, sI (y0 <<< ((0 : Int32) &&& 31)), sI ((y0 <<< ((0 : Int32) &&& 31)) - (16 : Int32)), sI 34] [(.ref o0), (.int 34)])) rfl rfl (hb hby dc40_54)
  refine og st5 ?_
  show oG p e below _ (T5.setTop (mkF m 57 #[sR o0, sI y0, sI 16, sI (y0 <<< ((0 : Int32) &&& 31)), sI ((y0 <<< ((0 : Int32) &&& 31)) - (16 : Int32)), sI 34] [(.int 0), (.int 34)]))
  refine og (fun _ hr => XS.ishr X5.here hx rfl (hb hby dc40_57) rfl hr) ?_
  show oG p e below _ (T5.setTop (mkF m 58 #[sR o0, sI y0, sI 16, sI (y0 <<< ((0 : Int32) &&& 31)), sI ((y0 <<< ((0 : Int32) &&& 31)) - (16 : Int32)), sI 34] [(.int 34)]))
  exact own_retI X5 hx hlk Bd.returns (hb hby dc40_58) (by decide) (by decide) ⟨rfl, N4, e5⟩
theorem own_pd10 : parseMethodDescriptor "(I)I" = some ⟨[.int], some .int⟩ := by decide +kernel
theorem dc15_27 : decode jdk_68_method_9_code 27 = .ok (.aload_n 0, 1) := by decide +kernel
theorem dc15_28 : decode jdk_68_method_9_code 28 = .ok (.getfield 22, 3) := by decide +kernel
theorem dc15_31 : decode jdk_68_method_9_code 31 = .ok (.ishl, 1) := by decide +kernel
theorem dc15_32 : decode jdk_68_method_9_code 32 = .ok (.invokestatic 108, 3) := by decide +kernel
theorem own_pd11 : parseMethodDescriptor "([BI)[B" = some ⟨[(.array .byte), .int], some (.array .byte)⟩ := by decide +kernel
theorem dc15_35 : decode jdk_68_method_9_code 35 = .ok (.putfield 15, 3) := by decide +kernel
def Q_eg (Z : State) (sb_ : Addr) (cn_ : Int32) (va_ : List Value) (h0 : Heap) (n0 : Nat) (v : Option Value) (h : Heap) (L : List Loc) : Prop := (∃ (a : Addr) (k : ClassId), v = none ∧ Fr n0 L ∧ Keep h0 h [sb_] ∧ n0 ≤ a ∧ h0.size ≤ a ∧ Exa Z h a "[B" ∧ Fld Z h sb_ "java/lang/AbstractStringBuilder" "value" "[B" (.ref a) ∧ Fld Z h sb_ "java/lang/AbstractStringBuilder" "coder" "B" (.int 0) ∧ Fld Z h sb_ "java/lang/AbstractStringBuilder" "count" "I" (.int cn_) ∧ Arv Z h a k .byte (34 : Int32) (own_grow va_) (.int 0))
set_option maxRecDepth 65536 in
set_option maxHeartbeats 40000000 in
theorem rm_eg (l : Launch) (Z : State) (a0 : Array Value) (hw : ∀ d ∈ tables_1, d.before a0 Z = true) (ws : List Jvm.Cond) (sb_ : Addr) (nd_ : Int32) (cn_ : Int32) (ar_ : Addr) (ka_ : ClassId) (va_ : List Value) (h0 : Heap) (n0 : Nat) (Z0 : n0 ≤ h0.size) (Eb_ : Exa Z h0 sb_ "java/lang/StringBuilder") (Vb_ : Fld Z h0 sb_ "java/lang/AbstractStringBuilder" "value" "[B" (.ref ar_)) (Cb_ : Fld Z h0 sb_ "java/lang/AbstractStringBuilder" "coder" "B" (.int 0)) (Nb_ : Fld Z h0 sb_ "java/lang/AbstractStringBuilder" "count" "I" (.int cn_)) (Ka_ : Arv Z h0 ar_ ka_ .byte (16 : Int32) va_ (.int 0)) (gsb_ : n0 ≤ sb_) (nsa_ : sb_ ≠ ar_) (hg0_ : (16 : Int32) < nd_) (hg1_ : ¬ ((30 : Int32) < nd_)) :
    MetFree l (⟨"java/lang/AbstractStringBuilder", "ensureCapacityInternal", "(I)V"⟩ : MethodName) (head1 (Jvm.Cond.code (⟨"java/lang/AbstractStringBuilder", "ensureCapacityInternal", "(I)V"⟩ : MethodName) jdk_68_method_9_code 3 none :: ws) ({ frames := 3, cells := 1, slots := 34, locals := 55 } : Room)) (fun aA U => aA = #[(.ref sb_), (.int nd_)] ∧ Z.Warmed39 U.vm ∧ U.heap = h0) (fun _ _ _ _ _ => True) (fun _ U o U' => ∃ v L, o = .returned v ∧ Q_eg Z sb_ cn_ va_ h0 n0 v U'.heap L ∧ FrameEnd U o U' L ({ frames := 3, cells := 1, slots := 34, locals := 55 } : Room).cells ({ frames := 3, cells := 1, slots := 34, locals := 55 } : Room).slots) := by
  refine MetFree.of_bodySF (plainFor_of_name own_pn_java_lang_AbstractStringBuilder) hisR ?_
  intro p e s m args below meth c s₁ Bd hml0 hP hK
  obtain ⟨rfl, hZ, hh⟩ := hP
  have hx := Bd.exec
  have hby := Bd.bytes
  have hlk : meth.locks = false := BodyLoose.notSynchronized Bd
  have hml : c.maxLocals = 3 := hml0
  have hown : s.vm.findClass "java/lang/AbstractStringBuilder" = some m.cls := findClass_of_methodNamed Bd.named
  have hnm := (name_of_methodNamed Bd.named Bd.method).1
  have X0 : Stand p l e ({ frames := 3, cells := 1, slots := 34, locals := 55 } : Room) s m #[(.ref sb_), (.int nd_)] below meth c s₁ [] 0 0 := Stand.of_body Bd
  have e0 : s₁.heap = h0 := by rw [← hh, Bd.state]; rfl
  have N0 := Fr.nil n0
  have K0 : Keep h0 h0 [sb_] := Keep.refl _ _
  show oG p e below (own_K s (Q_eg Z sb_ cn_ va_ h0 n0) ({ frames := 3, cells := 1, slots := 34, locals := 55 } : Room).cells ({ frames := 3, cells := 1, slots := 34, locals := 55 } : Room).slots) (s₁.setTop (entryFrame m #[(.ref sb_), (.int nd_)] 3))
  rw [(by first | (simp [entryFrame, mkF, argsToLocals, Value.category]; done) | rfl : entryFrame m #[(.ref sb_), (.int nd_)] 3 = mkF m 0 #[sR sb_, sI nd_, sU] [])]
  show oG p e below _ (s₁.setTop (mkF m 0 #[sR sb_, sI nd_, sU] []))
  refine og (fun _ hr => XS.aloadN X0.here hx rfl (hb hby dc15_0) rfl rfl hr) ?_
  show oG p e below _ (s₁.setTop (mkF m 1 #[sR sb_, sI nd_, sU] [(.ref sb_)]))
  obtain ⟨T1, X1, e1, st1⟩ := getF X0 hx hZ hown (host := "") (Or.inl (hw _ (own_m 60 rfl))) Via.refl e0 Vb_ (g := (mkF m 1 #[sR sb_, sI nd_, sU] [(.ref sb_)])) rfl rfl (hb hby dc15_1)
  refine og st1 ?_
  show oG p e below _ (T1.setTop (mkF m 4 #[sR sb_, sI nd_, sU] [(.ref ar_)]))
  refine og (fun _ hr => own_alen X1 hx hZ e1 Ka_ rfl rfl (hb hby dc15_4) (XS.aloadN X1.here hx rfl (hb hby dc15_5) rfl rfl hr)) ?_
  show oG p e below _ (T1.setTop (mkF m 6 #[sR sb_, sI nd_, sU] [(.ref sb_), (.int 16)]))
  obtain ⟨T2, X2, e2, st2⟩ := getF X1 hx hZ hown (host := "") (Or.inl (hw _ (own_m 62 rfl))) Via.refl e1 Cb_ (g := (mkF m 6 #[sR sb_, sI nd_, sU] [(.ref sb_), (.int 16)])) rfl rfl (hb hby dc15_6)
  refine og st2 ?_
  show oG p e below _ (T2.setTop (mkF m 9 #[sR sb_, sI nd_, sU] [(.int 0), (.int 16)]))
  refine og (fun _ hr => XS.ishr X2.here hx rfl (hb hby dc15_9) rfl (XS.istoreN X2.here hx rfl (hb hby dc15_10) rfl (l' := #[sR sb_, sI nd_, sI 16]) rfl (XS.iloadN X2.here hx rfl (hb hby dc15_11) rfl (XS.iloadN X2.here hx rfl (hb hby dc15_12) rfl (XS.isub X2.here hx rfl (hb hby dc15_13) rfl hr))))) ?_
  show oG p e below _ (T2.setTop (mkF m 14 #[sR sb_, sI nd_, sI 16] [(.int (nd_ - (16 : Int32)))]))
  have c3 : (0 : Int32) < (nd_ - (16 : Int32)) := by
    have q0 := rng32 nd_
    have q1 := c_isub nd_ (16 : Int32)
    have r1 := rng32 (nd_ - (16 : Int32))
    have p0 := hg0_
    have p1 := hg1_
    simp only [true_implies, Int32.lt_iff_toInt_lt, ← Int32.toInt_inj, Int32.reduceToInt, Int64.lt_iff_toInt_lt, ← Int64.toInt_inj, Int64.reduceToInt] at q0 q1 p0 p1 ⊢
    omega
  refine og (fun _ hr => XS.ifNo X2.here hx rfl (hb hby dc15_14) rfl ((if0 _ _).trans (tlt c3).2.2.2) hr) ?_
  show oG p e below _ (T2.setTop (mkF m 17 #[sR sb_, sI nd_, sI 16] []))
  refine og (fun _ hr => XS.aloadN X2.here hx rfl (hb hby dc15_17) rfl rfl (XS.aloadN X2.here hx rfl (hb hby dc15_18) rfl rfl hr)) ?_
  show oG p e below _ (T2.setTop (mkF m 19 #[sR sb_, sI nd_, sI 16] [(.ref sb_), (.ref sb_)]))
  obtain ⟨T4, X4, e4, st4⟩ := getF X2 hx hZ hown (host := "") (Or.inl (hw _ (own_m 60 rfl))) Via.refl e2 Vb_ (g := (mkF m 19 #[sR sb_, sI nd_, sI 16] [(.ref sb_), (.ref sb_)])) rfl rfl (hb hby dc15_19)
  refine og st4 ?_
  show oG p e below _ (T4.setTop (mkF m 22 #[sR sb_, sI nd_, sI 16] [(.ref ar_), (.ref sb_)]))
  refine og (fun _ hr => XS.aloadN X4.here hx rfl (hb hby dc15_22) rfl rfl (XS.iloadN X4.here hx rfl (hb hby dc15_23) rfl hr)) ?_
  show oG p e below _ (T4.setTop (mkF m 24 #[sR sb_, sI nd_, sI 16] [(.int nd_), (.ref sb_), (.ref ar_), (.ref sb_)]))
  have c5 : ((nd_ <<< ((0 : Int32) &&& 31)) - (16 : Int32)) < (18 : Int32) := by
    have q0 := rng32 nd_
    have q1 := c_isub nd_ (16 : Int32)
    have r1 := rng32 (nd_ - (16 : Int32))
    have q2 := congrArg Int32.toInt (own_shl0 nd_)
    have r2 := rng32 (nd_ <<< ((0 : Int32) &&& 31))
    have q3 := c_isub (nd_ <<< ((0 : Int32) &&& 31)) (16 : Int32)
    have r3 := rng32 ((nd_ <<< ((0 : Int32) &&& 31)) - (16 : Int32))
    have p0 := hg0_
    have p1 := hg1_
    have p2 := c3
    simp only [true_implies, Int32.lt_iff_toInt_lt, ← Int32.toInt_inj, Int32.reduceToInt, Int64.lt_iff_toInt_lt, ← Int64.toInt_inj, Int64.reduceToInt] at q0 q1 q2 q3 p0 p1 p2 ⊢
    omega
  refine own_cv X4 hx hZ hown (notFace_of_selects (args := #[]) (mvT hZ (hw _ (own_m 232 rfl)))) (hw _ (own_m 229 rfl)) (own_decl (hw _ (own_m 230 rfl)) (hw _ (own_m 233 rfl))) (hw _ (own_m 232 rfl)) (hw _ (own_m 230 rfl)) (hw _ (own_m 56 rfl)) (hw _ (own_m 233 rfl)) (by decide) Eb_ (rm := { frames := 2, cells := 0, slots := 0, locals := 29 }) (rm_newCapacity_5 l Z a0 hw [] sb_ nd_ ar_ va_ ka_ h0 n0 Z0 Vb_ Ka_ Cb_ c5) (by decide) (W := 2) (by decide) (by decide) (by decide) e4 (by rw [hml]; rfl) (argsL := [(.int nd_)]) (lenOf own_pd10 rfl) (rest := [(.ref ar_), (.ref sb_)]) rfl rfl (Nat.le_of_eq rfl) (hb hby dc15_24) ?_
  intro _ T6 L6 X6 hQ6
  obtain ⟨rfl, N6q, e6⟩ := hQ6
  have N6 := Fr.app N0 N6q
  show oG p e below _ (T6.setTop (mkF m 27 #[sR sb_, sI nd_, sI 16] [(.int 34), (.ref ar_), (.ref sb_)]))
  refine og (fun _ hr => XS.aloadN X6.here hx rfl (hb hby dc15_27) rfl rfl hr) ?_
  show oG p e below _ (T6.setTop (mkF m 28 #[sR sb_, sI nd_, sI 16] [(.ref sb_), (.int 34), (.ref ar_), (.ref sb_)]))
  obtain ⟨T7, X7, e7, st7⟩ := getF X6 hx hZ hown (host := "") (Or.inl (hw _ (own_m 62 rfl))) Via.refl e6 Cb_ (g := (mkF m 28 #[sR sb_, sI nd_, sI 16] [(.ref sb_), (.int 34), (.ref ar_), (.ref sb_)])) rfl rfl (hb hby dc15_28)
  refine og st7 ?_
  show oG p e below _ (T7.setTop (mkF m 31 #[sR sb_, sI nd_, sI 16] [(.int 0), (.int 34), (.ref ar_), (.ref sb_)]))
  refine og (fun _ hr => XS.ishl X7.here hx rfl (hb hby dc15_31) rfl hr) ?_
  show oG p e below _ (T7.setTop (mkF m 32 #[sR sb_, sI nd_, sI 16] [(.int 34), (.ref ar_), (.ref sb_)]))
  refine own_cs X7 hx hZ hown (hw _ (own_m 243 rfl)) (hw _ (own_m 244 rfl)) (hw _ (own_m 168 rfl)) (hw _ (own_m 245 rfl)) (by decide) (rm := { frames := 1, cells := 1, slots := 34, locals := 40 }) (rm_co l Z a0 hw [] ar_ ka_ va_ h0 n0 Z0 Ka_) (by decide) (W := 1) (by decide) (by decide) (by decide) e7 (by rw [hml]; rfl) (argsL := [(.ref ar_), (.int 34)]) (lenOf own_pd11 rfl) (rest := [(.ref sb_)]) rfl rfl (Nat.le_of_eq rfl) (hb hby dc15_32) ?_
  intro _ T8 L8 X8 hQ8
  obtain ⟨b8_0, kb8_0, rfl, N8q, K8, ge8_0, sz8_0, f8_0, f8_1⟩ := hQ8
  have N8 := Fr.app N6 N8q
  have sz9 : h0.size ≤ b8_0 := Nat.le_trans K0.1 sz8_0
  show oG p e below _ (T8.setTop (mkF m 35 #[sR sb_, sI nd_, sI 16] [(.ref b8_0), (.ref sb_)]))
  have f10 := (Eb_.keep K8)
  have f11 := (Vb_.keep K8 nin0)
  obtain ⟨T12, h12, X12, e12, W12, st12⟩ := putF X8 hx hZ hown (host := "") (Or.inl (hw _ (own_m 60 rfl))) Via.refl rfl f11 f10 (Or.inl (hw _ (own_m 61 rfl))) (hw _ (own_m 47 rfl)) (ty := (.array .byte)) (by decide) rfl rfl (g := (mkF m 35 #[sR sb_, sI nd_, sI 16] [(.ref b8_0), (.ref sb_)])) rfl rfl (hb hby dc15_35)
  refine og st12 ?_
  have f13 := f11.same W12
  have N14 := Fr.snoc X12 N8 gsb_
  show oG p e below _ (T12.setTop (mkF m 38 #[sR sb_, sI nd_, sI 16] []))
  have K15 := ((K0.trans K8 all0).wr W12 (Or.inl (List.mem_of_getElem? (i := 0) rfl)))
  have f16 := (f8_0.wr W12)
  have f17 := ((Cb_.keep K8 nin0).other W12 (Or.inr (slot_ne (Or.inl (hw _ (own_m 63 rfl))) (Or.inl (hw _ (own_m 61 rfl))) (by decide) (t := .byte) (t' := (.array .byte)) (by decide) (by decide))))
  have f18 := ((Nb_.keep K8 nin0).other W12 (Or.inr (slot_ne (Or.inl (hw _ (own_m 88 rfl))) (Or.inl (hw _ (own_m 61 rfl))) (by decide) (t := .int) (t' := (.array .byte)) (by decide) (by decide))))
  have f19 := (f8_1.other W12 (Ne.symm (Nat.ne_of_lt (Nat.lt_of_lt_of_le Eb_.lt sz8_0))))
  exact own_ret0 X12 hx hlk Bd.returns (hb hby dc15_38) (by decide) (by decide) (by rw [e12]; exact ⟨b8_0, kb8_0, rfl, N14, K15, ge8_0, sz9, f16, f13, f17, f18, f19⟩)
theorem own_ngr {a : Nat} {x y : Int32} (hx : Int32.ofNat a = x) (h : a ≤ y.toNatClampNeg) (hy : y.toNatClampNeg < 4000) (h0 : ¬ y < 0) : ¬ (0 : Int32) < (x - (y >>> ((0 : Int32) &&& 31))) := by
  rw [own_shr0]
  have q := (own_tnat hx (by omega)).2.2
  have e : y.toInt = y.toNatClampNeg := by rw [Int32.lt_iff_toInt_lt] at h0; simp only [Int32.reduceToInt] at h0; simp only [Int32.toNatClampNeg]; omega
  have d := c_isub x y; have r := rng32 (x - y)
  simp only [Int32.lt_iff_toInt_lt, Int32.reduceToInt]
  omega
theorem own_gtN {a c : Nat} {x : Int32} (hx : Int32.ofNat a = x) (h : c < a) (ha : a < 4000) : Int32.ofNat c < x := by
  have q := (own_tnat hx ha).2.2; have q2 := (own_tnat (a := c) rfl (by omega)).2.2
  rw [Int32.lt_iff_toInt_lt]; omega
theorem own_leN {a c : Nat} {x : Int32} (hx : Int32.ofNat a = x) (h : a ≤ c) (hc : c < 4000) : ¬ Int32.ofNat c < x := by
  have q := (own_tnat hx (by omega)).2.2; have q2 := (own_tnat (a := c) rfl hc).2.2
  rw [Int32.lt_iff_toInt_lt]; omega
theorem dc12_0 : decode jdk_68_method_22_code 0 = .ok (.aload_n 1, 1) := by decide +kernel
theorem dc12_1 : decode jdk_68_method_22_code 1 = .ok (.ifnonnull 8, 3) := by decide +kernel
theorem dc12_9 : decode jdk_68_method_22_code 9 = .ok (.aload_n 1, 1) := by decide +kernel
theorem dc12_10 : decode jdk_68_method_22_code 10 = .ok (.invokevirtual 32, 3) := by decide +kernel
theorem dc12_13 : decode jdk_68_method_22_code 13 = .ok (.istore_n 2, 1) := by decide +kernel
theorem dc12_14 : decode jdk_68_method_22_code 14 = .ok (.aload_n 0, 1) := by decide +kernel
theorem dc12_15 : decode jdk_68_method_22_code 15 = .ok (.aload_n 0, 1) := by decide +kernel
theorem dc12_16 : decode jdk_68_method_22_code 16 = .ok (.getfield 79, 3) := by decide +kernel
theorem dc12_19 : decode jdk_68_method_22_code 19 = .ok (.iload_n 2, 1) := by decide +kernel
theorem dc12_20 : decode jdk_68_method_22_code 20 = .ok (.iadd, 1) := by decide +kernel
theorem dc12_21 : decode jdk_68_method_22_code 21 = .ok (.invokevirtual 100, 3) := by decide +kernel
theorem own_pd12 : parseMethodDescriptor "(I)V" = some ⟨[.int], none⟩ := by decide +kernel
theorem dc12_24 : decode jdk_68_method_22_code 24 = .ok (.aload_n 0, 1) := by decide +kernel
theorem dc12_25 : decode jdk_68_method_22_code 25 = .ok (.aload_n 0, 1) := by decide +kernel
theorem dc12_26 : decode jdk_68_method_22_code 26 = .ok (.getfield 79, 3) := by decide +kernel
theorem dc12_29 : decode jdk_68_method_22_code 29 = .ok (.aload_n 1, 1) := by decide +kernel
theorem dc12_30 : decode jdk_68_method_22_code 30 = .ok (.invokevirtual 208, 3) := by decide +kernel
theorem own_pd13 : parseMethodDescriptor "(ILjava/lang/String;)V" = some ⟨[.int, (.object "java/lang/String")], none⟩ := by decide +kernel
theorem dc12_33 : decode jdk_68_method_22_code 33 = .ok (.aload_n 0, 1) := by decide +kernel
theorem dc12_34 : decode jdk_68_method_22_code 34 = .ok (.dup, 1) := by decide +kernel
theorem dc12_35 : decode jdk_68_method_22_code 35 = .ok (.getfield 79, 3) := by decide +kernel
theorem dc12_38 : decode jdk_68_method_22_code 38 = .ok (.iload_n 2, 1) := by decide +kernel
theorem dc12_39 : decode jdk_68_method_22_code 39 = .ok (.iadd, 1) := by decide +kernel
theorem dc12_40 : decode jdk_68_method_22_code 40 = .ok (.putfield 79, 3) := by decide +kernel
theorem dc12_43 : decode jdk_68_method_22_code 43 = .ok (.aload_n 0, 1) := by decide +kernel
theorem dc12_44 : decode jdk_68_method_22_code 44 = .ok (.areturn, 1) := by decide +kernel
def Q_asn (Z : State) (sb_ : Addr) (cn_ : Int32) (cs_ : List Int32) (nn_ : Int32) (ds_ : List Int32) (ar_ : Addr) (ka_ : ClassId) (cap_ : Int32) (va_ : List Value) (h0 : Heap) (n0 : Nat) (v : Option Value) (h : Heap) (L : List Loc) : Prop := v = some (.ref sb_) ∧ Fr n0 L ∧ Keep h0 h [sb_, ar_] ∧ Fld Z h sb_ "java/lang/AbstractStringBuilder" "value" "[B" (.ref ar_) ∧ Fld Z h sb_ "java/lang/AbstractStringBuilder" "coder" "B" (.int 0) ∧ Fld Z h sb_ "java/lang/AbstractStringBuilder" "count" "I" (.int (cn_ + nn_)) ∧ Arv Z h ar_ ka_ .byte cap_ (own_ins va_ (own_lb ds_) cs_.length) (.int 0)
set_option maxRecDepth 65536 in
set_option maxHeartbeats 40000000 in
theorem rm_asn (l : Launch) (Z : State) (a0 : Array Value) (hw : ∀ d ∈ tables_1, d.before a0 Z = true) (ws : List Jvm.Cond) (sb_ : Addr) (cn_ : Int32) (cs_ : List Int32) (s_ : Addr) (t_ : Addr) (kt_ : ClassId) (nn_ : Int32) (ds_ : List Int32) (ar_ : Addr) (ka_ : ClassId) (cap_ : Int32) (va_ : List Value) (i_COMPACT_STRINGS : Int32) (h0 : Heap) (n0 : Nat) (Z0 : n0 ≤ h0.size) (Eb_ : Exa Z h0 sb_ "java/lang/StringBuilder") (Vb_ : Fld Z h0 sb_ "java/lang/AbstractStringBuilder" "value" "[B" (.ref ar_)) (Cb_ : Fld Z h0 sb_ "java/lang/AbstractStringBuilder" "coder" "B" (.int 0)) (Nb_ : Fld Z h0 sb_ "java/lang/AbstractStringBuilder" "count" "I" (.int cn_)) (Es_ : Exa Z h0 s_ "java/lang/String") (Cs_ : Fld Z h0 s_ "java/lang/String" "coder" "B" (.int 0)) (Vs_ : Fld Z h0 s_ "java/lang/String" "value" "[B" (.ref t_)) (Kt_ : Arv Z h0 t_ kt_ .byte nn_ (own_lb ds_) (.int 0)) (Ka_ : Arv Z h0 ar_ ka_ .byte cap_ va_ (.int 0)) (hnn_ : Int32.ofNat ds_.length = nn_) (hdl_ : ds_.length ≤ 40) (hcd_ : StrChars.Road.CodA ds_ 0 nn_ (own_lb ds_)) (hbx_ : ∀ c ∈ ds_, ¬ c < 0 ∧ ¬ (65535 : Int32) < c) (hcn_ : Int32.ofNat cs_.length = cn_) (hcl_ : cs_.length ≤ 30) (gsb_ : n0 ≤ sb_) (gar_ : n0 ≤ ar_) (nsa_ : sb_ ≠ ar_) (hvl_ : va_.length = cap_.toNatClampNeg) (hc4_ : cap_.toNatClampNeg < 4000) (hc0_ : ¬ cap_ < 0) (hfit_ : cs_.length + ds_.length ≤ cap_.toNatClampNeg) (nta_ : t_ ≠ ar_) (ntb_ : t_ ≠ sb_) (nsb_ : s_ ≠ sb_) (nss_ : s_ ≠ ar_) (S_COMPACT_STRINGS : Sta Z h0 "java/lang/String" "COMPACT_STRINGS" "Z" (.int i_COMPACT_STRINGS)) (hs_COMPACT_STRINGS : ¬ (i_COMPACT_STRINGS = (0 : Int32))) :
    MetFree l (⟨"java/lang/AbstractStringBuilder", "append", "(Ljava/lang/String;)Ljava/lang/AbstractStringBuilder;"⟩ : MethodName) (head1 (Jvm.Cond.code (⟨"java/lang/AbstractStringBuilder", "append", "(Ljava/lang/String;)Ljava/lang/AbstractStringBuilder;"⟩ : MethodName) jdk_68_method_22_code 3 (some (.object "java/lang/AbstractStringBuilder")) :: ws) ({ frames := 3, cells := 0, slots := 0, locals := 69 } : Room)) (fun aA U => aA = #[(.ref sb_), (.ref s_)] ∧ Z.Warmed39 U.vm ∧ U.heap = h0) (fun _ _ _ _ _ => True) (fun _ U o U' => ∃ v L, o = .returned v ∧ Q_asn Z sb_ cn_ cs_ nn_ ds_ ar_ ka_ cap_ va_ h0 n0 v U'.heap L ∧ FrameEnd U o U' L ({ frames := 3, cells := 0, slots := 0, locals := 69 } : Room).cells ({ frames := 3, cells := 0, slots := 0, locals := 69 } : Room).slots) := by
  refine MetFree.of_bodySF (plainFor_of_name own_pn_java_lang_AbstractStringBuilder) hisR ?_
  intro p e s m args below meth c s₁ Bd hml0 hP hK
  obtain ⟨rfl, hZ, hh⟩ := hP
  have hx := Bd.exec
  have hby := Bd.bytes
  have hlk : meth.locks = false := BodyLoose.notSynchronized Bd
  have hml : c.maxLocals = 3 := hml0
  have hown : s.vm.findClass "java/lang/AbstractStringBuilder" = some m.cls := findClass_of_methodNamed Bd.named
  have hnm := (name_of_methodNamed Bd.named Bd.method).1
  have X0 : Stand p l e ({ frames := 3, cells := 0, slots := 0, locals := 69 } : Room) s m #[(.ref sb_), (.ref s_)] below meth c s₁ [] 0 0 := Stand.of_body Bd
  have e0 : s₁.heap = h0 := by rw [← hh, Bd.state]; rfl
  have N0 := Fr.nil n0
  have K0 : Keep h0 h0 [sb_, ar_] := Keep.refl _ _
  show oG p e below (own_K s (Q_asn Z sb_ cn_ cs_ nn_ ds_ ar_ ka_ cap_ va_ h0 n0) ({ frames := 3, cells := 0, slots := 0, locals := 69 } : Room).cells ({ frames := 3, cells := 0, slots := 0, locals := 69 } : Room).slots) (s₁.setTop (entryFrame m #[(.ref sb_), (.ref s_)] 3))
  rw [(by first | (simp [entryFrame, mkF, argsToLocals, Value.category]; done) | rfl : entryFrame m #[(.ref sb_), (.ref s_)] 3 = mkF m 0 #[sR sb_, sR s_, sU] [])]
  show oG p e below _ (s₁.setTop (mkF m 0 #[sR sb_, sR s_, sU] []))
  refine og (fun _ hr => XS.aloadN X0.here hx rfl (hb hby dc12_0) rfl rfl hr) ?_
  show oG p e below _ (s₁.setTop (mkF m 1 #[sR sb_, sR s_, sU] [(.ref s_)]))
  refine og (fun _ hr => XS.ifnonnullYes X0.here hx rfl (pc0 := 1) (pc' := 9) rfl (hb hby dc12_1) rfl (by decide) (by decide) hr) ?_
  show oG p e below _ (s₁.setTop (mkF m 9 #[sR sb_, sR s_, sU] []))
  refine og (fun _ hr => XS.aloadN X0.here hx rfl (hb hby dc12_9) rfl rfl hr) ?_
  show oG p e below _ (s₁.setTop (mkF m 10 #[sR sb_, sR s_, sU] [(.ref s_)]))
  refine own_lens X0 hx hZ hown hw (hw _ (own_m 77 rfl)) (hw _ (own_m 78 rfl)) (hw _ (own_m 80 rfl)) (hw _ (own_m 79 rfl)) (hw _ (own_m 2 rfl)) ds_ Es_ Vs_ Cs_ Kt_ hcd_ hbx_ (Nat.le_trans hdl_ (by decide)) S_COMPACT_STRINGS hs_COMPACT_STRINGS (by decide) (W := 0) (by decide) (by decide) (by decide) e0 (by rw [hml]; rfl) (Nat.le_of_eq rfl) (hb hby dc12_10) ?_
  intro T1 X1 e1
  rw [hnn_]
  show oG p e below _ (T1.setTop (mkF m 13 #[sR sb_, sR s_, sU] [(.int nn_)]))
  refine og (fun _ hr => XS.istoreN X1.here hx rfl (hb hby dc12_13) rfl (l' := #[sR sb_, sR s_, sI nn_]) rfl (XS.aloadN X1.here hx rfl (hb hby dc12_14) rfl rfl (XS.aloadN X1.here hx rfl (hb hby dc12_15) rfl rfl hr))) ?_
  show oG p e below _ (T1.setTop (mkF m 16 #[sR sb_, sR s_, sI nn_] [(.ref sb_), (.ref sb_)]))
  obtain ⟨T2, X2, e2, st2⟩ := getF X1 hx hZ hown (host := "") (Or.inl (hw _ (own_m 87 rfl))) Via.refl e1 Nb_ (g := (mkF m 16 #[sR sb_, sR s_, sI nn_] [(.ref sb_), (.ref sb_)])) rfl rfl (hb hby dc12_16)
  refine og st2 ?_
  show oG p e below _ (T2.setTop (mkF m 19 #[sR sb_, sR s_, sI nn_] [(.int cn_), (.ref sb_)]))
  refine og (fun _ hr => XS.iloadN X2.here hx rfl (hb hby dc12_19) rfl (XS.iadd X2.here hx rfl (hb hby dc12_20) rfl hr)) ?_
  show oG p e below _ (T2.setTop (mkF m 21 #[sR sb_, sR s_, sI nn_] [(.int (cn_ + nn_)), (.ref sb_)]))
  refine own_cv X2 hx hZ hown (notFace_of_selects (args := #[]) (mvT hZ (hw _ (own_m 92 rfl)))) (hw _ (own_m 89 rfl)) (own_decl (hw _ (own_m 90 rfl)) (hw _ (own_m 93 rfl))) (hw _ (own_m 92 rfl)) (hw _ (own_m 90 rfl)) (hw _ (own_m 56 rfl)) (hw _ (own_m 93 rfl)) (by decide) Eb_ (rm := { frames := 0, cells := 0, slots := 0, locals := 0 }) (rm_en l Z a0 hw [] sb_ (cn_ + nn_) cn_ ar_ ka_ cap_ va_ h0 n0 Z0 Eb_ Vb_ Cb_ Nb_ Ka_ (own_ngr (own_add hcn_ hnn_) hfit_ hc4_ hc0_)) (by decide) (W := 0) (by decide) (by decide) (by decide) e2 (by rw [hml]; rfl) (argsL := [(.int (cn_ + nn_))]) (lenOf own_pd12 rfl) (rest := []) rfl rfl (Nat.le_of_eq rfl) (hb hby dc12_21) ?_
  intro _ T3 L3 X3 hQ3
  obtain ⟨rfl, N3q, e3⟩ := hQ3
  have N3 := Fr.app N0 N3q
  show oG p e below _ (T3.setTop (mkF m 24 #[sR sb_, sR s_, sI nn_] []))
  refine og (fun _ hr => XS.aloadN X3.here hx rfl (hb hby dc12_24) rfl rfl (XS.aloadN X3.here hx rfl (hb hby dc12_25) rfl rfl hr)) ?_
  show oG p e below _ (T3.setTop (mkF m 26 #[sR sb_, sR s_, sI nn_] [(.ref sb_), (.ref sb_)]))
  obtain ⟨T4, X4, e4, st4⟩ := getF X3 hx hZ hown (host := "") (Or.inl (hw _ (own_m 87 rfl))) Via.refl e3 Nb_ (g := (mkF m 26 #[sR sb_, sR s_, sI nn_] [(.ref sb_), (.ref sb_)])) rfl rfl (hb hby dc12_26)
  refine og st4 ?_
  show oG p e below _ (T4.setTop (mkF m 29 #[sR sb_, sR s_, sI nn_] [(.int cn_), (.ref sb_)]))
  refine og (fun _ hr => XS.aloadN X4.here hx rfl (hb hby dc12_29) rfl rfl hr) ?_
  show oG p e below _ (T4.setTop (mkF m 30 #[sR sb_, sR s_, sI nn_] [(.ref s_), (.int cn_), (.ref sb_)]))
  refine own_cv X4 hx hZ hown (notFace_of_selects (args := #[]) (mvT hZ (hw _ (own_m 97 rfl)))) (hw _ (own_m 94 rfl)) (own_decl (hw _ (own_m 95 rfl)) (hw _ (own_m 98 rfl))) (hw _ (own_m 97 rfl)) (hw _ (own_m 95 rfl)) (hw _ (own_m 56 rfl)) (hw _ (own_m 98 rfl)) (by decide) Eb_ (rm := { frames := 2, cells := 0, slots := 0, locals := 55 }) (rm_ps l Z a0 hw [] sb_ s_ t_ kt_ nn_ ds_ ar_ ka_ cap_ va_ cn_ cs_.length i_COMPACT_STRINGS h0 n0 Z0 Eb_ Vb_ Cb_ Es_ Cs_ Vs_ Kt_ Ka_ hnn_ hdl_ hcn_ (by omega) hvl_ hfit_ gar_ nta_ S_COMPACT_STRINGS hs_COMPACT_STRINGS) (by decide) (W := 0) (by decide) (by decide) (by decide) e4 (by rw [hml]; rfl) (argsL := [(.int cn_), (.ref s_)]) (lenOf own_pd13 rfl) (rest := []) rfl rfl (Nat.le_of_eq rfl) (hb hby dc12_30) ?_
  intro _ T5 L5 X5 hQ5
  obtain ⟨rfl, N5q, K5, f5_0⟩ := hQ5
  have N5 := Fr.app N3 N5q
  show oG p e below _ (T5.setTop (mkF m 33 #[sR sb_, sR s_, sI nn_] []))
  refine og (fun _ hr => XS.aloadN X5.here hx rfl (hb hby dc12_33) rfl rfl (XS.dup X5.here hx rfl (hb hby dc12_34) rfl rfl hr)) ?_
  show oG p e below _ (T5.setTop (mkF m 35 #[sR sb_, sR s_, sI nn_] [(.ref sb_), (.ref sb_)]))
  have f6 := (Nb_.keep K5 (ninS nsa_ nin0))
  obtain ⟨T7, X7, e7, st7⟩ := getF X5 hx hZ hown (host := "") (Or.inl (hw _ (own_m 87 rfl))) Via.refl rfl f6 (g := (mkF m 35 #[sR sb_, sR s_, sI nn_] [(.ref sb_), (.ref sb_)])) rfl rfl (hb hby dc12_35)
  refine og st7 ?_
  show oG p e below _ (T7.setTop (mkF m 38 #[sR sb_, sR s_, sI nn_] [(.int cn_), (.ref sb_)]))
  refine og (fun _ hr => XS.iloadN X7.here hx rfl (hb hby dc12_38) rfl (XS.iadd X7.here hx rfl (hb hby dc12_39) rfl hr)) ?_
  show oG p e below _ (T7.setTop (mkF m 40 #[sR sb_, sR s_, sI nn_] [(.int (cn_ + nn_)), (.ref sb_)]))
  have f8 := (Eb_.keep K5)
  obtain ⟨T9, h9, X9, e9, W9, st9⟩ := putF X7 hx hZ hown (host := "") (Or.inl (hw _ (own_m 87 rfl))) Via.refl e7 f6 f8 (Or.inl (hw _ (own_m 88 rfl))) (hw _ (own_m 47 rfl)) (ty := .int) (by decide) rfl rfl (g := (mkF m 40 #[sR sb_, sR s_, sI nn_] [(.int (cn_ + nn_)), (.ref sb_)])) rfl rfl (hb hby dc12_40)
  refine og st9 ?_
  have f10 := f6.same W9
  have N11 := Fr.snoc X9 N5 gsb_
  show oG p e below _ (T9.setTop (mkF m 43 #[sR sb_, sR s_, sI nn_] []))
  refine og (fun _ hr => XS.aloadN X9.here hx rfl (hb hby dc12_43) rfl rfl hr) ?_
  show oG p e below _ (T9.setTop (mkF m 44 #[sR sb_, sR s_, sI nn_] [(.ref sb_)]))
  have K12 := ((K0.trans K5 (allS (Or.inl (List.mem_of_getElem? (i := 1) rfl)) all0)).wr W9 (Or.inl (List.mem_of_getElem? (i := 0) rfl)))
  have f13 := ((Vb_.keep K5 (ninS nsa_ nin0)).other W9 (Or.inr (slot_ne (Or.inl (hw _ (own_m 61 rfl))) (Or.inl (hw _ (own_m 88 rfl))) (by decide) (t := (.array .byte)) (t' := .int) (by decide) (by decide))))
  have f14 := ((Cb_.keep K5 (ninS nsa_ nin0)).other W9 (Or.inr (slot_ne (Or.inl (hw _ (own_m 63 rfl))) (Or.inl (hw _ (own_m 88 rfl))) (by decide) (t := .byte) (t' := .int) (by decide) (by decide))))
  have f15 := (f5_0.other W9 (Ne.symm nsa_))
  exact own_retR X9 hx hlk Bd.returns rfl rfl (hb hby dc12_44) (by decide) (by decide) (by rw [e9]; exact ⟨rfl, N11, K12, f13, f14, f10, f15⟩)
def Q_asg (Z : State) (sb_ : Addr) (cn_ : Int32) (cs_ : List Int32) (nn_ : Int32) (ds_ : List Int32) (va_ : List Value) (h0 : Heap) (n0 : Nat) (v : Option Value) (h : Heap) (L : List Loc) : Prop := (∃ (a : Addr) (k : ClassId), v = some (.ref sb_) ∧ Fr n0 L ∧ Keep h0 h [sb_] ∧ n0 ≤ a ∧ h0.size ≤ a ∧ Exa Z h a "[B" ∧ Fld Z h sb_ "java/lang/AbstractStringBuilder" "value" "[B" (.ref a) ∧ Fld Z h sb_ "java/lang/AbstractStringBuilder" "coder" "B" (.int 0) ∧ Fld Z h sb_ "java/lang/AbstractStringBuilder" "count" "I" (.int (cn_ + nn_)) ∧ Arv Z h a k .byte (34 : Int32) (own_ins (own_grow va_) (own_lb ds_) cs_.length) (.int 0))
set_option maxRecDepth 65536 in
set_option maxHeartbeats 40000000 in
theorem rm_asg (l : Launch) (Z : State) (a0 : Array Value) (hw : ∀ d ∈ tables_1, d.before a0 Z = true) (ws : List Jvm.Cond) (sb_ : Addr) (cn_ : Int32) (cs_ : List Int32) (s_ : Addr) (t_ : Addr) (kt_ : ClassId) (nn_ : Int32) (ds_ : List Int32) (ar_ : Addr) (ka_ : ClassId) (va_ : List Value) (i_COMPACT_STRINGS : Int32) (h0 : Heap) (n0 : Nat) (Z0 : n0 ≤ h0.size) (Eb_ : Exa Z h0 sb_ "java/lang/StringBuilder") (Vb_ : Fld Z h0 sb_ "java/lang/AbstractStringBuilder" "value" "[B" (.ref ar_)) (Cb_ : Fld Z h0 sb_ "java/lang/AbstractStringBuilder" "coder" "B" (.int 0)) (Nb_ : Fld Z h0 sb_ "java/lang/AbstractStringBuilder" "count" "I" (.int cn_)) (Es_ : Exa Z h0 s_ "java/lang/String") (Cs_ : Fld Z h0 s_ "java/lang/String" "coder" "B" (.int 0)) (Vs_ : Fld Z h0 s_ "java/lang/String" "value" "[B" (.ref t_)) (Kt_ : Arv Z h0 t_ kt_ .byte nn_ (own_lb ds_) (.int 0)) (Ka_ : Arv Z h0 ar_ ka_ .byte (16 : Int32) va_ (.int 0)) (hnn_ : Int32.ofNat ds_.length = nn_) (hdl_ : ds_.length ≤ 40) (hcd_ : StrChars.Road.CodA ds_ 0 nn_ (own_lb ds_)) (hbx_ : ∀ c ∈ ds_, ¬ c < 0 ∧ ¬ (65535 : Int32) < c) (hcn_ : Int32.ofNat cs_.length = cn_) (hcl_ : cs_.length ≤ 30) (gsb_ : n0 ≤ sb_) (gar_ : n0 ≤ ar_) (nsa_ : sb_ ≠ ar_) (hfit_ : cs_.length + ds_.length ≤ 30) (hgr_ : 16 < cs_.length + ds_.length) (nta_ : t_ ≠ ar_) (ntb_ : t_ ≠ sb_) (nsb_ : s_ ≠ sb_) (nss_ : s_ ≠ ar_) (S_COMPACT_STRINGS : Sta Z h0 "java/lang/String" "COMPACT_STRINGS" "Z" (.int i_COMPACT_STRINGS)) (hs_COMPACT_STRINGS : ¬ (i_COMPACT_STRINGS = (0 : Int32))) :
    MetFree l (⟨"java/lang/AbstractStringBuilder", "append", "(Ljava/lang/String;)Ljava/lang/AbstractStringBuilder;"⟩ : MethodName) (head1 (Jvm.Cond.code (⟨"java/lang/AbstractStringBuilder", "append", "(Ljava/lang/String;)Ljava/lang/AbstractStringBuilder;"⟩ : MethodName) jdk_68_method_22_code 3 (some (.object "java/lang/AbstractStringBuilder")) :: ws) ({ frames := 4, cells := 1, slots := 34, locals := 69 } : Room)) (fun aA U => aA = #[(.ref sb_), (.ref s_)] ∧ Z.Warmed39 U.vm ∧ U.heap = h0) (fun _ _ _ _ _ => True) (fun _ U o U' => ∃ v L, o = .returned v ∧ Q_asg Z sb_ cn_ cs_ nn_ ds_ va_ h0 n0 v U'.heap L ∧ FrameEnd U o U' L ({ frames := 4, cells := 1, slots := 34, locals := 69 } : Room).cells ({ frames := 4, cells := 1, slots := 34, locals := 69 } : Room).slots) := by
  refine MetFree.of_bodySF (plainFor_of_name own_pn_java_lang_AbstractStringBuilder) hisR ?_
  intro p e s m args below meth c s₁ Bd hml0 hP hK
  obtain ⟨rfl, hZ, hh⟩ := hP
  have hx := Bd.exec
  have hby := Bd.bytes
  have hlk : meth.locks = false := BodyLoose.notSynchronized Bd
  have hml : c.maxLocals = 3 := hml0
  have hown : s.vm.findClass "java/lang/AbstractStringBuilder" = some m.cls := findClass_of_methodNamed Bd.named
  have hnm := (name_of_methodNamed Bd.named Bd.method).1
  have X0 : Stand p l e ({ frames := 4, cells := 1, slots := 34, locals := 69 } : Room) s m #[(.ref sb_), (.ref s_)] below meth c s₁ [] 0 0 := Stand.of_body Bd
  have e0 : s₁.heap = h0 := by rw [← hh, Bd.state]; rfl
  have N0 := Fr.nil n0
  have hg0_ : (16 : Int32) < (cn_ + nn_) := own_gtN (c := 16) (own_add hcn_ hnn_) hgr_ (by omega)
  have hg1_ : ¬ ((30 : Int32) < (cn_ + nn_)) := own_leN (c := 30) (own_add hcn_ hnn_) hfit_ (by decide)
  have K0 : Keep h0 h0 [sb_] := Keep.refl _ _
  show oG p e below (own_K s (Q_asg Z sb_ cn_ cs_ nn_ ds_ va_ h0 n0) ({ frames := 4, cells := 1, slots := 34, locals := 69 } : Room).cells ({ frames := 4, cells := 1, slots := 34, locals := 69 } : Room).slots) (s₁.setTop (entryFrame m #[(.ref sb_), (.ref s_)] 3))
  rw [(by first | (simp [entryFrame, mkF, argsToLocals, Value.category]; done) | rfl : entryFrame m #[(.ref sb_), (.ref s_)] 3 = mkF m 0 #[sR sb_, sR s_, sU] [])]
  show oG p e below _ (s₁.setTop (mkF m 0 #[sR sb_, sR s_, sU] []))
  refine og (fun _ hr => XS.aloadN X0.here hx rfl (hb hby dc12_0) rfl rfl hr) ?_
  show oG p e below _ (s₁.setTop (mkF m 1 #[sR sb_, sR s_, sU] [(.ref s_)]))
  refine og (fun _ hr => XS.ifnonnullYes X0.here hx rfl (pc0 := 1) (pc' := 9) rfl (hb hby dc12_1) rfl (by decide) (by decide) hr) ?_
  show oG p e below _ (s₁.setTop (mkF m 9 #[sR sb_, sR s_, sU] []))
  refine og (fun _ hr => XS.aloadN X0.here hx rfl (hb hby dc12_9) rfl rfl hr) ?_
  show oG p e below _ (s₁.setTop (mkF m 10 #[sR sb_, sR s_, sU] [(.ref s_)]))
  refine own_lens X0 hx hZ hown hw (hw _ (own_m 77 rfl)) (hw _ (own_m 78 rfl)) (hw _ (own_m 80 rfl)) (hw _ (own_m 79 rfl)) (hw _ (own_m 2 rfl)) ds_ Es_ Vs_ Cs_ Kt_ hcd_ hbx_ (Nat.le_trans hdl_ (by decide)) S_COMPACT_STRINGS hs_COMPACT_STRINGS (by decide) (W := 0) (by decide) (by decide) (by decide) e0 (by rw [hml]; rfl) (Nat.le_of_eq rfl) (hb hby dc12_10) ?_
  intro T1 X1 e1
  rw [hnn_]
  show oG p e below _ (T1.setTop (mkF m 13 #[sR sb_, sR s_, sU] [(.int nn_)]))
  refine og (fun _ hr => XS.istoreN X1.here hx rfl (hb hby dc12_13) rfl (l' := #[sR sb_, sR s_, sI nn_]) rfl (XS.aloadN X1.here hx rfl (hb hby dc12_14) rfl rfl (XS.aloadN X1.here hx rfl (hb hby dc12_15) rfl rfl hr))) ?_
  show oG p e below _ (T1.setTop (mkF m 16 #[sR sb_, sR s_, sI nn_] [(.ref sb_), (.ref sb_)]))
  obtain ⟨T2, X2, e2, st2⟩ := getF X1 hx hZ hown (host := "") (Or.inl (hw _ (own_m 87 rfl))) Via.refl e1 Nb_ (g := (mkF m 16 #[sR sb_, sR s_, sI nn_] [(.ref sb_), (.ref sb_)])) rfl rfl (hb hby dc12_16)
  refine og st2 ?_
  show oG p e below _ (T2.setTop (mkF m 19 #[sR sb_, sR s_, sI nn_] [(.int cn_), (.ref sb_)]))
  refine og (fun _ hr => XS.iloadN X2.here hx rfl (hb hby dc12_19) rfl (XS.iadd X2.here hx rfl (hb hby dc12_20) rfl hr)) ?_
  show oG p e below _ (T2.setTop (mkF m 21 #[sR sb_, sR s_, sI nn_] [(.int (cn_ + nn_)), (.ref sb_)]))
  refine own_cv X2 hx hZ hown (notFace_of_selects (args := #[]) (mvT hZ (hw _ (own_m 92 rfl)))) (hw _ (own_m 89 rfl)) (own_decl (hw _ (own_m 90 rfl)) (hw _ (own_m 93 rfl))) (hw _ (own_m 92 rfl)) (hw _ (own_m 90 rfl)) (hw _ (own_m 56 rfl)) (hw _ (own_m 93 rfl)) (by decide) Eb_ (rm := { frames := 3, cells := 1, slots := 34, locals := 55 }) (rm_eg l Z a0 hw [] sb_ (cn_ + nn_) cn_ ar_ ka_ va_ h0 n0 Z0 Eb_ Vb_ Cb_ Nb_ Ka_ gsb_ nsa_ hg0_ hg1_) (by decide) (W := 0) (by decide) (by decide) (by decide) e2 (by rw [hml]; rfl) (argsL := [(.int (cn_ + nn_))]) (lenOf own_pd12 rfl) (rest := []) rfl rfl (Nat.le_of_eq rfl) (hb hby dc12_21) ?_
  intro _ T3 L3 X3 hQ3
  obtain ⟨b3_0, kb3_0, rfl, N3q, K3, ge3_0, sz3_0, f3_0, f3_1, f3_2, f3_3, f3_4⟩ := hQ3
  have N3 := Fr.app N0 N3q
  have sz4 : h0.size ≤ b3_0 := Nat.le_trans K0.1 sz3_0
  show oG p e below _ (T3.setTop (mkF m 24 #[sR sb_, sR s_, sI nn_] []))
  refine og (fun _ hr => XS.aloadN X3.here hx rfl (hb hby dc12_24) rfl rfl (XS.aloadN X3.here hx rfl (hb hby dc12_25) rfl rfl hr)) ?_
  show oG p e below _ (T3.setTop (mkF m 26 #[sR sb_, sR s_, sI nn_] [(.ref sb_), (.ref sb_)]))
  obtain ⟨T5, X5, e5, st5⟩ := getF X3 hx hZ hown (host := "") (Or.inl (hw _ (own_m 87 rfl))) Via.refl rfl f3_3 (g := (mkF m 26 #[sR sb_, sR s_, sI nn_] [(.ref sb_), (.ref sb_)])) rfl rfl (hb hby dc12_26)
  refine og st5 ?_
  show oG p e below _ (T5.setTop (mkF m 29 #[sR sb_, sR s_, sI nn_] [(.int cn_), (.ref sb_)]))
  refine og (fun _ hr => XS.aloadN X5.here hx rfl (hb hby dc12_29) rfl rfl hr) ?_
  show oG p e below _ (T5.setTop (mkF m 30 #[sR sb_, sR s_, sI nn_] [(.ref s_), (.int cn_), (.ref sb_)]))
  have f7 := (Eb_.keep K3)
  have f8 := (Es_.keep K3)
  have f9 := (Cs_.keep K3 (ninS nsb_ nin0))
  have f10 := (Vs_.keep K3 (ninS nsb_ nin0))
  have f11 := (Kt_.keep K3 (ninS ntb_ nin0))
  have f12 := (own_sta_keep S_COMPACT_STRINGS K3 (allS (own_ns_exa Eb_) all0))
  have Z13 := (Nat.le_trans Z0 K3.1)
  refine own_cv X5 hx hZ hown (notFace_of_selects (args := #[]) (mvT hZ (hw _ (own_m 97 rfl)))) (hw _ (own_m 94 rfl)) (own_decl (hw _ (own_m 95 rfl)) (hw _ (own_m 98 rfl))) (hw _ (own_m 97 rfl)) (hw _ (own_m 95 rfl)) (hw _ (own_m 56 rfl)) (hw _ (own_m 98 rfl)) (by decide) f7 (rm := { frames := 2, cells := 0, slots := 0, locals := 55 }) (rm_ps l Z a0 hw [] sb_ s_ t_ kt_ nn_ ds_ b3_0 kb3_0 (34 : Int32) (own_grow va_) cn_ cs_.length i_COMPACT_STRINGS T3.heap n0 Z13 f7 f3_1 f3_2 f8 f9 f10 f11 f3_4 hnn_ hdl_ hcn_ (by omega) (own_grow_len va_) (show cs_.length + ds_.length ≤ 34 from by omega) ge3_0 (Nat.ne_of_lt (Nat.lt_of_lt_of_le Kt_.lt sz3_0)) f12 hs_COMPACT_STRINGS) (by decide) (W := 0) (by decide) (by decide) (by decide) e5 (by rw [hml]; rfl) (argsL := [(.int cn_), (.ref s_)]) (lenOf own_pd13 rfl) (rest := []) rfl rfl (Nat.le_of_eq rfl) (hb hby dc12_30) ?_
  intro _ T6 L6 X6 hQ6
  obtain ⟨rfl, N6q, K6, f6_0⟩ := hQ6
  have N6 := Fr.app N3 N6q
  show oG p e below _ (T6.setTop (mkF m 33 #[sR sb_, sR s_, sI nn_] []))
  refine og (fun _ hr => XS.aloadN X6.here hx rfl (hb hby dc12_33) rfl rfl (XS.dup X6.here hx rfl (hb hby dc12_34) rfl rfl hr)) ?_
  show oG p e below _ (T6.setTop (mkF m 35 #[sR sb_, sR s_, sI nn_] [(.ref sb_), (.ref sb_)]))
  have f14 := (f3_3.keep K6 (ninS (Nat.ne_of_lt (Nat.lt_of_lt_of_le Eb_.lt sz3_0)) nin0))
  obtain ⟨T15, X15, e15, st15⟩ := getF X6 hx hZ hown (host := "") (Or.inl (hw _ (own_m 87 rfl))) Via.refl rfl f14 (g := (mkF m 35 #[sR sb_, sR s_, sI nn_] [(.ref sb_), (.ref sb_)])) rfl rfl (hb hby dc12_35)
  refine og st15 ?_
  show oG p e below _ (T15.setTop (mkF m 38 #[sR sb_, sR s_, sI nn_] [(.int cn_), (.ref sb_)]))
  refine og (fun _ hr => XS.iloadN X15.here hx rfl (hb hby dc12_38) rfl (XS.iadd X15.here hx rfl (hb hby dc12_39) rfl hr)) ?_
  show oG p e below _ (T15.setTop (mkF m 40 #[sR sb_, sR s_, sI nn_] [(.int (cn_ + nn_)), (.ref sb_)]))
  have f16 := (f7.keep K6)
  obtain ⟨T17, h17, X17, e17, W17, st17⟩ := putF X15 hx hZ hown (host := "") (Or.inl (hw _ (own_m 87 rfl))) Via.refl e15 f14 f16 (Or.inl (hw _ (own_m 88 rfl))) (hw _ (own_m 47 rfl)) (ty := .int) (by decide) rfl rfl (g := (mkF m 40 #[sR sb_, sR s_, sI nn_] [(.int (cn_ + nn_)), (.ref sb_)])) rfl rfl (hb hby dc12_40)
  refine og st17 ?_
  have f18 := f14.same W17
  have N19 := Fr.snoc X17 N6 gsb_
  show oG p e below _ (T17.setTop (mkF m 43 #[sR sb_, sR s_, sI nn_] []))
  refine og (fun _ hr => XS.aloadN X17.here hx rfl (hb hby dc12_43) rfl rfl hr) ?_
  show oG p e below _ (T17.setTop (mkF m 44 #[sR sb_, sR s_, sI nn_] [(.ref sb_)]))
  have K20 := (((K0.trans K3 (allS (Or.inl (List.mem_of_getElem? (i := 0) rfl)) all0)).trans K6 (allS (Or.inr sz4) all0)).wr W17 (Or.inl (List.mem_of_getElem? (i := 0) rfl)))
  have f21 := ((f3_0.keep K6).wr W17)
  have f22 := ((f3_1.keep K6 (ninS (Nat.ne_of_lt (Nat.lt_of_lt_of_le Eb_.lt sz3_0)) nin0)).other W17 (Or.inr (slot_ne (Or.inl (hw _ (own_m 61 rfl))) (Or.inl (hw _ (own_m 88 rfl))) (by decide) (t := (.array .byte)) (t' := .int) (by decide) (by decide))))
  have f23 := ((f3_2.keep K6 (ninS (Nat.ne_of_lt (Nat.lt_of_lt_of_le Eb_.lt sz3_0)) nin0)).other W17 (Or.inr (slot_ne (Or.inl (hw _ (own_m 63 rfl))) (Or.inl (hw _ (own_m 88 rfl))) (by decide) (t := .byte) (t' := .int) (by decide) (by decide))))
  have f24 := (f6_0.other W17 (Ne.symm (Nat.ne_of_lt (Nat.lt_of_lt_of_le Eb_.lt sz3_0))))
  exact own_retR X17 hx hlk Bd.returns rfl rfl (hb hby dc12_44) (by decide) (by decide) (by rw [e17]; exact ⟨b3_0, kb3_0, rfl, N19, K20, ge3_0, sz4, f21, f22, f23, f18, f24⟩)
theorem dc11_0 : decode jdk_67_method_7_code 0 = .ok (.aload_n 0, 1) := by decide +kernel
theorem dc11_1 : decode jdk_67_method_7_code 1 = .ok (.aload_n 1, 1) := by decide +kernel
theorem dc11_2 : decode jdk_67_method_7_code 2 = .ok (.invokespecial 29, 3) := by decide +kernel
theorem own_pd14 : parseMethodDescriptor "(Ljava/lang/String;)Ljava/lang/AbstractStringBuilder;" = some ⟨[(.object "java/lang/String")], some (.object "java/lang/AbstractStringBuilder")⟩ := by decide +kernel
theorem dc11_5 : decode jdk_67_method_7_code 5 = .ok (.pop, 1) := by decide +kernel
theorem dc11_6 : decode jdk_67_method_7_code 6 = .ok (.aload_n 0, 1) := by decide +kernel
theorem dc11_7 : decode jdk_67_method_7_code 7 = .ok (.areturn, 1) := by decide +kernel
theorem own_pn_java_lang_StringBuilder : plainName "java/lang/StringBuilder" = true := by first | (simp [plainName, overriddenIn]; done) | decide +kernel
def Q_san (Z : State) (sb_ : Addr) (cn_ : Int32) (cs_ : List Int32) (nn_ : Int32) (ds_ : List Int32) (ar_ : Addr) (ka_ : ClassId) (cap_ : Int32) (va_ : List Value) (h0 : Heap) (n0 : Nat) (v : Option Value) (h : Heap) (L : List Loc) : Prop := v = some (.ref sb_) ∧ Fr n0 L ∧ Keep h0 h [sb_, ar_] ∧ Fld Z h sb_ "java/lang/AbstractStringBuilder" "value" "[B" (.ref ar_) ∧ Fld Z h sb_ "java/lang/AbstractStringBuilder" "coder" "B" (.int 0) ∧ Fld Z h sb_ "java/lang/AbstractStringBuilder" "count" "I" (.int (cn_ + nn_)) ∧ Arv Z h ar_ ka_ .byte cap_ (own_ins va_ (own_lb ds_) cs_.length) (.int 0)
set_option maxRecDepth 65536 in
set_option maxHeartbeats 40000000 in
theorem rm_san (l : Launch) (Z : State) (a0 : Array Value) (hw : ∀ d ∈ tables_1, d.before a0 Z = true) (ws : List Jvm.Cond) (sb_ : Addr) (cn_ : Int32) (cs_ : List Int32) (s_ : Addr) (t_ : Addr) (kt_ : ClassId) (nn_ : Int32) (ds_ : List Int32) (ar_ : Addr) (ka_ : ClassId) (cap_ : Int32) (va_ : List Value) (i_COMPACT_STRINGS : Int32) (h0 : Heap) (n0 : Nat) (Z0 : n0 ≤ h0.size) (Eb_ : Exa Z h0 sb_ "java/lang/StringBuilder") (Vb_ : Fld Z h0 sb_ "java/lang/AbstractStringBuilder" "value" "[B" (.ref ar_)) (Cb_ : Fld Z h0 sb_ "java/lang/AbstractStringBuilder" "coder" "B" (.int 0)) (Nb_ : Fld Z h0 sb_ "java/lang/AbstractStringBuilder" "count" "I" (.int cn_)) (Es_ : Exa Z h0 s_ "java/lang/String") (Cs_ : Fld Z h0 s_ "java/lang/String" "coder" "B" (.int 0)) (Vs_ : Fld Z h0 s_ "java/lang/String" "value" "[B" (.ref t_)) (Kt_ : Arv Z h0 t_ kt_ .byte nn_ (own_lb ds_) (.int 0)) (Ka_ : Arv Z h0 ar_ ka_ .byte cap_ va_ (.int 0)) (hnn_ : Int32.ofNat ds_.length = nn_) (hdl_ : ds_.length ≤ 40) (hcd_ : StrChars.Road.CodA ds_ 0 nn_ (own_lb ds_)) (hbx_ : ∀ c ∈ ds_, ¬ c < 0 ∧ ¬ (65535 : Int32) < c) (hcn_ : Int32.ofNat cs_.length = cn_) (hcl_ : cs_.length ≤ 30) (gsb_ : n0 ≤ sb_) (gar_ : n0 ≤ ar_) (nsa_ : sb_ ≠ ar_) (hvl_ : va_.length = cap_.toNatClampNeg) (hc4_ : cap_.toNatClampNeg < 4000) (hc0_ : ¬ cap_ < 0) (hfit_ : cs_.length + ds_.length ≤ cap_.toNatClampNeg) (nta_ : t_ ≠ ar_) (ntb_ : t_ ≠ sb_) (nsb_ : s_ ≠ sb_) (nss_ : s_ ≠ ar_) (S_COMPACT_STRINGS : Sta Z h0 "java/lang/String" "COMPACT_STRINGS" "Z" (.int i_COMPACT_STRINGS)) (hs_COMPACT_STRINGS : ¬ (i_COMPACT_STRINGS = (0 : Int32))) :
    MetFree l (⟨"java/lang/StringBuilder", "append", "(Ljava/lang/String;)Ljava/lang/StringBuilder;"⟩ : MethodName) (head1 (Jvm.Cond.code (⟨"java/lang/StringBuilder", "append", "(Ljava/lang/String;)Ljava/lang/StringBuilder;"⟩ : MethodName) jdk_67_method_7_code 2 (some (.object "java/lang/StringBuilder")) :: ws) ({ frames := 4, cells := 0, slots := 0, locals := 83 } : Room)) (fun aA U => aA = #[(.ref sb_), (.ref s_)] ∧ Z.Warmed39 U.vm ∧ U.heap = h0) (fun _ _ _ _ _ => True) (fun _ U o U' => ∃ v L, o = .returned v ∧ Q_san Z sb_ cn_ cs_ nn_ ds_ ar_ ka_ cap_ va_ h0 n0 v U'.heap L ∧ FrameEnd U o U' L ({ frames := 4, cells := 0, slots := 0, locals := 83 } : Room).cells ({ frames := 4, cells := 0, slots := 0, locals := 83 } : Room).slots) := by
  refine MetFree.of_bodySF (plainFor_of_name own_pn_java_lang_StringBuilder) hisR ?_
  intro p e s m args below meth c s₁ Bd hml0 hP hK
  obtain ⟨rfl, hZ, hh⟩ := hP
  have hx := Bd.exec
  have hby := Bd.bytes
  have hlk : meth.locks = false := BodyLoose.notSynchronized Bd
  have hml : c.maxLocals = 2 := hml0
  have hown : s.vm.findClass "java/lang/StringBuilder" = some m.cls := findClass_of_methodNamed Bd.named
  have hnm := (name_of_methodNamed Bd.named Bd.method).1
  have X0 : Stand p l e ({ frames := 4, cells := 0, slots := 0, locals := 83 } : Room) s m #[(.ref sb_), (.ref s_)] below meth c s₁ [] 0 0 := Stand.of_body Bd
  have e0 : s₁.heap = h0 := by rw [← hh, Bd.state]; rfl
  have N0 := Fr.nil n0
  have K0 : Keep h0 h0 [sb_, ar_] := Keep.refl _ _
  show oG p e below (own_K s (Q_san Z sb_ cn_ cs_ nn_ ds_ ar_ ka_ cap_ va_ h0 n0) ({ frames := 4, cells := 0, slots := 0, locals := 83 } : Room).cells ({ frames := 4, cells := 0, slots := 0, locals := 83 } : Room).slots) (s₁.setTop (entryFrame m #[(.ref sb_), (.ref s_)] 2))
  rw [(by first | (simp [entryFrame, mkF, argsToLocals, Value.category]; done) | rfl : entryFrame m #[(.ref sb_), (.ref s_)] 2 = mkF m 0 #[sR sb_, sR s_] [])]
  show oG p e below _ (s₁.setTop (mkF m 0 #[sR sb_, sR s_] []))
  refine og (fun _ hr => XS.aloadN X0.here hx rfl (hb hby dc11_0) rfl rfl (XS.aloadN X0.here hx rfl (hb hby dc11_1) rfl rfl hr)) ?_
  show oG p e below _ (s₁.setTop (mkF m 2 #[sR sb_, sR s_] [(.ref s_), (.ref sb_)]))
  refine own_su X0 hx hZ hown (hw _ (own_m 72 rfl)) (own_smm (hw _ (own_m 73 rfl)) (hw _ (own_m 92 rfl)) (hw _ (own_m 90 rfl)) rfl (by decide)) (hw _ (own_m 73 rfl)) (hw _ (own_m 74 rfl)) (hw _ (own_m 56 rfl)) (hw _ (own_m 76 rfl)) (by decide) (Ins.self Eb_) (rm := { frames := 3, cells := 0, slots := 0, locals := 69 }) (rm_asn l Z a0 hw [] sb_ cn_ cs_ s_ t_ kt_ nn_ ds_ ar_ ka_ cap_ va_ i_COMPACT_STRINGS h0 n0 Z0 Eb_ Vb_ Cb_ Nb_ Es_ Cs_ Vs_ Kt_ Ka_ hnn_ hdl_ hcd_ hbx_ hcn_ hcl_ gsb_ gar_ nsa_ hvl_ hc4_ hc0_ hfit_ nta_ ntb_ nsb_ nss_ S_COMPACT_STRINGS hs_COMPACT_STRINGS) (by decide) (W := 0) (by decide) (by decide) (by decide) e0 (by rw [hml]; rfl) (argsL := [(.ref s_)]) (lenOf own_pd14 rfl) (rest := []) rfl rfl (Nat.le_of_eq rfl) (hb hby dc11_2) ?_
  intro _ T1 L1 X1 hQ1
  obtain ⟨rfl, N1q, K1, f1_0, f1_1, f1_2, f1_3⟩ := hQ1
  have N1 := Fr.app N0 N1q
  show oG p e below _ (T1.setTop (mkF m 5 #[sR sb_, sR s_] [(.ref sb_)]))
  refine og (fun _ hr => XS.pop X1.here hx rfl (hb hby dc11_5) rfl rfl (XS.aloadN X1.here hx rfl (hb hby dc11_6) rfl rfl hr)) ?_
  show oG p e below _ (T1.setTop (mkF m 7 #[sR sb_, sR s_] [(.ref sb_)]))
  have K2 := (K0.trans K1 (allS (Or.inl (List.mem_of_getElem? (i := 0) rfl)) (allS (Or.inl (List.mem_of_getElem? (i := 1) rfl)) all0)))
  exact own_retR X1 hx hlk Bd.returns rfl rfl (hb hby dc11_7) (by decide) (by decide) (by exact ⟨rfl, N1, K2, f1_0, f1_1, f1_2, f1_3⟩)
def Q_sag (Z : State) (sb_ : Addr) (cn_ : Int32) (cs_ : List Int32) (nn_ : Int32) (ds_ : List Int32) (va_ : List Value) (h0 : Heap) (n0 : Nat) (v : Option Value) (h : Heap) (L : List Loc) : Prop := (∃ (a : Addr) (k : ClassId), v = some (.ref sb_) ∧ Fr n0 L ∧ Keep h0 h [sb_] ∧ n0 ≤ a ∧ h0.size ≤ a ∧ Exa Z h a "[B" ∧ Fld Z h sb_ "java/lang/AbstractStringBuilder" "value" "[B" (.ref a) ∧ Fld Z h sb_ "java/lang/AbstractStringBuilder" "coder" "B" (.int 0) ∧ Fld Z h sb_ "java/lang/AbstractStringBuilder" "count" "I" (.int (cn_ + nn_)) ∧ Arv Z h a k .byte (34 : Int32) (own_ins (own_grow va_) (own_lb ds_) cs_.length) (.int 0))
set_option maxRecDepth 65536 in
set_option maxHeartbeats 40000000 in
theorem rm_sag (l : Launch) (Z : State) (a0 : Array Value) (hw : ∀ d ∈ tables_1, d.before a0 Z = true) (ws : List Jvm.Cond) (sb_ : Addr) (cn_ : Int32) (cs_ : List Int32) (s_ : Addr) (t_ : Addr) (kt_ : ClassId) (nn_ : Int32) (ds_ : List Int32) (ar_ : Addr) (ka_ : ClassId) (va_ : List Value) (i_COMPACT_STRINGS : Int32) (h0 : Heap) (n0 : Nat) (Z0 : n0 ≤ h0.size) (Eb_ : Exa Z h0 sb_ "java/lang/StringBuilder") (Vb_ : Fld Z h0 sb_ "java/lang/AbstractStringBuilder" "value" "[B" (.ref ar_)) (Cb_ : Fld Z h0 sb_ "java/lang/AbstractStringBuilder" "coder" "B" (.int 0)) (Nb_ : Fld Z h0 sb_ "java/lang/AbstractStringBuilder" "count" "I" (.int cn_)) (Es_ : Exa Z h0 s_ "java/lang/String") (Cs_ : Fld Z h0 s_ "java/lang/String" "coder" "B" (.int 0)) (Vs_ : Fld Z h0 s_ "java/lang/String" "value" "[B" (.ref t_)) (Kt_ : Arv Z h0 t_ kt_ .byte nn_ (own_lb ds_) (.int 0)) (Ka_ : Arv Z h0 ar_ ka_ .byte (16 : Int32) va_ (.int 0)) (hnn_ : Int32.ofNat ds_.length = nn_) (hdl_ : ds_.length ≤ 40) (hcd_ : StrChars.Road.CodA ds_ 0 nn_ (own_lb ds_)) (hbx_ : ∀ c ∈ ds_, ¬ c < 0 ∧ ¬ (65535 : Int32) < c) (hcn_ : Int32.ofNat cs_.length = cn_) (hcl_ : cs_.length ≤ 30) (gsb_ : n0 ≤ sb_) (gar_ : n0 ≤ ar_) (nsa_ : sb_ ≠ ar_) (hfit_ : cs_.length + ds_.length ≤ 30) (hgr_ : 16 < cs_.length + ds_.length) (nta_ : t_ ≠ ar_) (ntb_ : t_ ≠ sb_) (nsb_ : s_ ≠ sb_) (nss_ : s_ ≠ ar_) (S_COMPACT_STRINGS : Sta Z h0 "java/lang/String" "COMPACT_STRINGS" "Z" (.int i_COMPACT_STRINGS)) (hs_COMPACT_STRINGS : ¬ (i_COMPACT_STRINGS = (0 : Int32))) :
    MetFree l (⟨"java/lang/StringBuilder", "append", "(Ljava/lang/String;)Ljava/lang/StringBuilder;"⟩ : MethodName) (head1 (Jvm.Cond.code (⟨"java/lang/StringBuilder", "append", "(Ljava/lang/String;)Ljava/lang/StringBuilder;"⟩ : MethodName) jdk_67_method_7_code 2 (some (.object "java/lang/StringBuilder")) :: ws) ({ frames := 5, cells := 1, slots := 34, locals := 83 } : Room)) (fun aA U => aA = #[(.ref sb_), (.ref s_)] ∧ Z.Warmed39 U.vm ∧ U.heap = h0) (fun _ _ _ _ _ => True) (fun _ U o U' => ∃ v L, o = .returned v ∧ Q_sag Z sb_ cn_ cs_ nn_ ds_ va_ h0 n0 v U'.heap L ∧ FrameEnd U o U' L ({ frames := 5, cells := 1, slots := 34, locals := 83 } : Room).cells ({ frames := 5, cells := 1, slots := 34, locals := 83 } : Room).slots) := by
  refine MetFree.of_bodySF (plainFor_of_name own_pn_java_lang_StringBuilder) hisR ?_
  intro p e s m args below meth c s₁ Bd hml0 hP hK
  obtain ⟨rfl, hZ, hh⟩ := hP
  have hx := Bd.exec
  have hby := Bd.bytes
  have hlk : meth.locks = false := BodyLoose.notSynchronized Bd
  have hml : c.maxLocals = 2 := hml0
  have hown : s.vm.findClass "java/lang/StringBuilder" = some m.cls := findClass_of_methodNamed Bd.named
  have hnm := (name_of_methodNamed Bd.named Bd.method).1
  have X0 : Stand p l e ({ frames := 5, cells := 1, slots := 34, locals := 83 } : Room) s m #[(.ref sb_), (.ref s_)] below meth c s₁ [] 0 0 := Stand.of_body Bd
  have e0 : s₁.heap = h0 := by rw [← hh, Bd.state]; rfl
  have N0 := Fr.nil n0
  have K0 : Keep h0 h0 [sb_] := Keep.refl _ _
  show oG p e below (own_K s (Q_sag Z sb_ cn_ cs_ nn_ ds_ va_ h0 n0) ({ frames := 5, cells := 1, slots := 34, locals := 83 } : Room).cells ({ frames := 5, cells := 1, slots := 34, locals := 83 } : Room).slots) (s₁.setTop (entryFrame m #[(.ref sb_), (.ref s_)] 2))
  rw [(by first | (simp [entryFrame, mkF, argsToLocals, Value.category]; done) | rfl : entryFrame m #[(.ref sb_), (.ref s_)] 2 = mkF m 0 #[sR sb_, sR s_] [])]
  show oG p e below _ (s₁.setTop (mkF m 0 #[sR sb_, sR s_] []))
  refine og (fun _ hr => XS.aloadN X0.here hx rfl (hb hby dc11_0) rfl rfl (XS.aloadN X0.here hx rfl (hb hby dc11_1) rfl rfl hr)) ?_
  show oG p e below _ (s₁.setTop (mkF m 2 #[sR sb_, sR s_] [(.ref s_), (.ref sb_)]))
  refine own_su X0 hx hZ hown (hw _ (own_m 72 rfl)) (own_smm (hw _ (own_m 73 rfl)) (hw _ (own_m 92 rfl)) (hw _ (own_m 90 rfl)) rfl (by decide)) (hw _ (own_m 73 rfl)) (hw _ (own_m 74 rfl)) (hw _ (own_m 56 rfl)) (hw _ (own_m 76 rfl)) (by decide) (Ins.self Eb_) (rm := { frames := 4, cells := 1, slots := 34, locals := 69 }) (rm_asg l Z a0 hw [] sb_ cn_ cs_ s_ t_ kt_ nn_ ds_ ar_ ka_ va_ i_COMPACT_STRINGS h0 n0 Z0 Eb_ Vb_ Cb_ Nb_ Es_ Cs_ Vs_ Kt_ Ka_ hnn_ hdl_ hcd_ hbx_ hcn_ hcl_ gsb_ gar_ nsa_ hfit_ hgr_ nta_ ntb_ nsb_ nss_ S_COMPACT_STRINGS hs_COMPACT_STRINGS) (by decide) (W := 0) (by decide) (by decide) (by decide) e0 (by rw [hml]; rfl) (argsL := [(.ref s_)]) (lenOf own_pd14 rfl) (rest := []) rfl rfl (Nat.le_of_eq rfl) (hb hby dc11_2) ?_
  intro _ T1 L1 X1 hQ1
  obtain ⟨b1_0, kb1_0, rfl, N1q, K1, ge1_0, sz1_0, f1_0, f1_1, f1_2, f1_3, f1_4⟩ := hQ1
  have N1 := Fr.app N0 N1q
  have sz2 : h0.size ≤ b1_0 := Nat.le_trans K0.1 sz1_0
  show oG p e below _ (T1.setTop (mkF m 5 #[sR sb_, sR s_] [(.ref sb_)]))
  refine og (fun _ hr => XS.pop X1.here hx rfl (hb hby dc11_5) rfl rfl (XS.aloadN X1.here hx rfl (hb hby dc11_6) rfl rfl hr)) ?_
  show oG p e below _ (T1.setTop (mkF m 7 #[sR sb_, sR s_] [(.ref sb_)]))
  have K3 := (K0.trans K1 (allS (Or.inl (List.mem_of_getElem? (i := 0) rfl)) all0))
  exact own_retR X1 hx hlk Bd.returns rfl rfl (hb hby dc11_7) (by decide) (by decide) (by exact ⟨b1_0, kb1_0, rfl, N1, K3, ge1_0, sz2, f1_0, f1_1, f1_2, f1_3, f1_4⟩)
theorem dc20_0 : decode jdk_68_method_33_code 0 = .ok (.aload_n 0, 1) := by decide +kernel
theorem dc20_1 : decode jdk_68_method_33_code 1 = .ok (.getfield 79, 3) := by decide +kernel
theorem dc20_4 : decode jdk_68_method_33_code 4 = .ok (.istore_n 3, 1) := by decide +kernel
theorem dc20_5 : decode jdk_68_method_33_code 5 = .ok (.iload_n 3, 1) := by decide +kernel
theorem dc20_6 : decode jdk_68_method_33_code 6 = .ok (.lload_n 1, 1) := by decide +kernel
theorem dc20_7 : decode jdk_68_method_33_code 7 = .ok (.invokestatic 254, 3) := by decide +kernel
theorem dc20_10 : decode jdk_68_method_33_code 10 = .ok (.iadd, 1) := by decide +kernel
theorem dc20_11 : decode jdk_68_method_33_code 11 = .ok (.istore 4, 2) := by decide +kernel
theorem dc20_13 : decode jdk_68_method_33_code 13 = .ok (.aload_n 0, 1) := by decide +kernel
theorem dc20_14 : decode jdk_68_method_33_code 14 = .ok (.iload 4, 2) := by decide +kernel
theorem dc20_16 : decode jdk_68_method_33_code 16 = .ok (.invokevirtual 100, 3) := by decide +kernel
theorem dc20_19 : decode jdk_68_method_33_code 19 = .ok (.aload_n 0, 1) := by decide +kernel
theorem dc20_20 : decode jdk_68_method_33_code 20 = .ok (.invokevirtual 83, 3) := by decide +kernel
theorem dc22_0 : decode jdk_68_method_68_code 0 = .ok (.getstatic 18, 3) := by decide +kernel
theorem dc22_3 : decode jdk_68_method_68_code 3 = .ok (.ifCond .eq 14, 3) := by decide +kernel
theorem dc22_6 : decode jdk_68_method_68_code 6 = .ok (.aload_n 0, 1) := by decide +kernel
theorem dc22_7 : decode jdk_68_method_68_code 7 = .ok (.getfield 22, 3) := by decide +kernel
theorem dc22_10 : decode jdk_68_method_68_code 10 = .ok (.ifCond .ne 7, 3) := by decide +kernel
theorem dc22_13 : decode jdk_68_method_68_code 13 = .ok (.iconst 1, 1) := by decide +kernel
theorem dc22_14 : decode jdk_68_method_68_code 14 = .ok (.goto 4, 3) := by decide +kernel
theorem dc22_18 : decode jdk_68_method_68_code 18 = .ok (.ireturn, 1) := by decide +kernel
def Q_isLatin1_6 (Z : State) (h0 : Heap) (n0 : Nat) (v : Option Value) (h : Heap) (L : List Loc) : Prop := v = some (.int 1) ∧ Fr n0 L ∧ h = h0
set_option maxRecDepth 65536 in
set_option maxHeartbeats 40000000 in
theorem rm_isLatin1_6 (l : Launch) (Z : State) (a0 : Array Value) (hw : ∀ d ∈ tables_1, d.before a0 Z = true) (ws : List Jvm.Cond) (o0 : Addr) (y0 : Int32) (h0 : Heap) (n0 : Nat) (Z0 : n0 ≤ h0.size) (P0 : Sta Z h0 "java/lang/String" "COMPACT_STRINGS" "Z" (.int y0)) (P1 : Fld Z h0 o0 "java/lang/AbstractStringBuilder" "coder" "B" (.int 0)) (hb0 : ¬ (y0 = (0 : Int32))) :
    MetFree l (⟨"java/lang/AbstractStringBuilder", "isLatin1", "()Z"⟩ : MethodName) (head1 (Jvm.Cond.code (⟨"java/lang/AbstractStringBuilder", "isLatin1", "()Z"⟩ : MethodName) jdk_68_method_68_code 1 (some .boolean) :: ws) ({ frames := 0, cells := 0, slots := 0, locals := 0 } : Room)) (fun aA U => aA = #[(.ref o0)] ∧ Z.Warmed39 U.vm ∧ U.heap = h0) (fun _ _ _ _ _ => True) (fun _ U o U' => ∃ v L, o = .returned v ∧ Q_isLatin1_6 Z h0 n0 v U'.heap L ∧ FrameEnd U o U' L ({ frames := 0, cells := 0, slots := 0, locals := 0 } : Room).cells ({ frames := 0, cells := 0, slots := 0, locals := 0 } : Room).slots) := by
  refine MetFree.of_bodySF (plainFor_of_name own_pn_java_lang_AbstractStringBuilder) hisR ?_
  intro p e s m args below meth c s₁ Bd hml0 hP hK
  obtain ⟨rfl, hZ, hh⟩ := hP
  have hx := Bd.exec
  have hby := Bd.bytes
  have hlk : meth.locks = false := BodyLoose.notSynchronized Bd
  have hml : c.maxLocals = 1 := hml0
  have hown : s.vm.findClass "java/lang/AbstractStringBuilder" = some m.cls := findClass_of_methodNamed Bd.named
  have hnm := (name_of_methodNamed Bd.named Bd.method).1
  have X0 : Stand p l e ({ frames := 0, cells := 0, slots := 0, locals := 0 } : Room) s m #[(.ref o0)] below meth c s₁ [] 0 0 := Stand.of_body Bd
  have e0 : s₁.heap = h0 := by rw [← hh, Bd.state]; rfl
  have N0 := Fr.nil n0
  show oG p e below (own_K s (Q_isLatin1_6 Z h0 n0) ({ frames := 0, cells := 0, slots := 0, locals := 0 } : Room).cells ({ frames := 0, cells := 0, slots := 0, locals := 0 } : Room).slots) (s₁.setTop (entryFrame m #[(.ref o0)] 1))
  rw [(by first | (simp [entryFrame, mkF, argsToLocals, Value.category]; done) | rfl : entryFrame m #[(.ref o0)] 1 = mkF m 0 #[sR o0] [])]
  show oG p e below _ (s₁.setTop (mkF m 0 #[sR o0] []))
  obtain ⟨T1, X1, e1, st1⟩ := getS2 X0 hx hZ hown (host := "") (Or.inl (hw _ (own_m 59 rfl))) Via.refl e0 P0 (g := (mkF m 0 #[sR o0] [])) rfl (hb hby dc22_0)
  refine og st1 ?_
  show oG p e below _ (T1.setTop (mkF m 3 #[sR o0] [(.int y0)]))
  refine og (fun _ hr => XS.ifNo X1.here hx rfl (hb hby dc22_3) rfl ((if0 _ _).trans (feq hb0).1) hr) ?_
  show oG p e below _ (T1.setTop (mkF m 6 #[sR o0] []))
  refine og (fun _ hr => XS.aloadN X1.here hx rfl (hb hby dc22_6) rfl rfl hr) ?_
  show oG p e below _ (T1.setTop (mkF m 7 #[sR o0] [(.ref o0)]))
  obtain ⟨T2, X2, e2, st2⟩ := getF X1 hx hZ hown (host := "") (Or.inl (hw _ (own_m 62 rfl))) Via.refl e1 P1 (g := (mkF m 7 #[sR o0] [(.ref o0)])) rfl rfl (hb hby dc22_7)
  refine og st2 ?_
  show oG p e below _ (T2.setTop (mkF m 10 #[sR o0] [(.int 0)]))
  refine og (fun _ hr => XS.ifNo X2.here hx rfl (hb hby dc22_10) rfl ((if0 _ _).trans (teq (by decide)).2) (XS.iconst X2.here hx rfl (hb hby dc22_13) (XS.goto X2.here hx rfl (pc0 := 14) (pc' := 18) rfl (hb hby dc22_14) (by decide) (by decide) hr))) ?_
  show oG p e below _ (T2.setTop (mkF m 18 #[sR o0] [(.int 1)]))
  exact own_retN X2 hx hlk Bd.returns (t := .boolean) (by simp) (hb hby dc22_18) (by decide) (by decide) ⟨rfl, N0, e2⟩
theorem own_pd15 : parseMethodDescriptor "()Z" = some ⟨[], some .boolean⟩ := by decide +kernel
theorem dc20_23 : decode jdk_68_method_33_code 23 = .ok (.ifCond .eq 17, 3) := by decide +kernel
theorem dc20_26 : decode jdk_68_method_33_code 26 = .ok (.lload_n 1, 1) := by decide +kernel
theorem dc20_27 : decode jdk_68_method_33_code 27 = .ok (.iload 4, 2) := by decide +kernel
theorem dc20_29 : decode jdk_68_method_33_code 29 = .ok (.aload_n 0, 1) := by decide +kernel
theorem dc20_30 : decode jdk_68_method_33_code 30 = .ok (.getfield 15, 3) := by decide +kernel
theorem dc20_33 : decode jdk_68_method_33_code 33 = .ok (.invokestatic 259, 3) := by decide +kernel
theorem dc20_36 : decode jdk_68_method_33_code 36 = .ok (.pop, 1) := by decide +kernel
theorem dc20_37 : decode jdk_68_method_33_code 37 = .ok (.goto 15, 3) := by decide +kernel
theorem dc20_52 : decode jdk_68_method_33_code 52 = .ok (.aload_n 0, 1) := by decide +kernel
theorem dc20_53 : decode jdk_68_method_33_code 53 = .ok (.iload 4, 2) := by decide +kernel
theorem dc20_55 : decode jdk_68_method_33_code 55 = .ok (.putfield 79, 3) := by decide +kernel
theorem dc20_58 : decode jdk_68_method_33_code 58 = .ok (.aload_n 0, 1) := by decide +kernel
theorem dc20_59 : decode jdk_68_method_33_code 59 = .ok (.areturn, 1) := by decide +kernel
def Q_ajn (Z : State) (sb_ : Addr) (cs_ : List Int32) (ar_ : Addr) (ka_ : ClassId) (cap_ : Int32) (x_ : Int64) (nN_ : Nat) (h0 : Heap) (n0 : Nat) (v : Option Value) (h : Heap) (L : List Loc) : Prop := (∃ (vb : List Value), v = some (.ref sb_) ∧ Fr n0 L ∧ Keep h0 h [sb_, ar_] ∧ Fld Z h sb_ "java/lang/AbstractStringBuilder" "value" "[B" (.ref ar_) ∧ Fld Z h sb_ "java/lang/AbstractStringBuilder" "coder" "B" (.int 0) ∧ Fld Z h sb_ "java/lang/AbstractStringBuilder" "count" "I" (.int (Int32.ofNat (cs_.length + (Jvm.Free.SBG.digitsL nN_ + Jvm.Free.SBG.GetCharsL.sgnL x_)))) ∧ Arv Z h ar_ ka_ .byte cap_ vb (.int 0) ∧ vb.length = cap_.toNatClampNeg ∧ own_hs vb (cs_ ++ own_dec nN_ x_))
set_option maxRecDepth 65536 in
set_option maxHeartbeats 40000000 in
theorem rm_ajn (l : Launch) (Z : State) (a0 : Array Value) (hw : ∀ d ∈ tables_1, d.before a0 Z = true) (ws : List Jvm.Cond) (sb_ : Addr) (cn_ : Int32) (cs_ : List Int32) (ar_ : Addr) (ka_ : ClassId) (cap_ : Int32) (va_ : List Value) (x_ : Int64) (nN_ : Nat) (ist_ : Addr) (da_ : Addr) (db_ : Addr) (Da_ : Cell) (Db_ : Cell) (i_COMPACT_STRINGS : Int32) (h0 : Heap) (n0 : Nat) (Z0 : n0 ≤ h0.size) (Eb_ : Exa Z h0 sb_ "java/lang/StringBuilder") (Vb_ : Fld Z h0 sb_ "java/lang/AbstractStringBuilder" "value" "[B" (.ref ar_)) (Cb_ : Fld Z h0 sb_ "java/lang/AbstractStringBuilder" "coder" "B" (.int 0)) (Nb_ : Fld Z h0 sb_ "java/lang/AbstractStringBuilder" "count" "I" (.int cn_)) (Ka_ : Arv Z h0 ar_ ka_ .byte cap_ va_ (.int 0)) (hcn_ : Int32.ofNat cs_.length = cn_) (hcl_ : cs_.length ≤ 30) (gsb_ : n0 ≤ sb_) (gar_ : n0 ≤ ar_) (nsa_ : sb_ ≠ ar_) (hvl_ : va_.length = cap_.toNatClampNeg) (hc4_ : cap_.toNatClampNeg < 4000) (hc0_ : ¬ cap_ < 0) (hhs_ : own_hs va_ cs_) (hfit_ : (cs_.length + (Jvm.Free.SBG.digitsL nN_ + Jvm.Free.SBG.GetCharsL.sgnL x_)) ≤ cap_.toNatClampNeg) (hn63_ : nN_ ≤ 2 ^ 63) (hng_ : (if x_ < 0 then x_ else -x_) = Jvm.Free.SBG.negL nN_) (Td_ : own_T Z h0 ist_ da_ db_ Da_ Db_) (htn_ : ist_ < n0 ∧ da_ < n0 ∧ db_ < n0) (S_COMPACT_STRINGS : Sta Z h0 "java/lang/String" "COMPACT_STRINGS" "Z" (.int i_COMPACT_STRINGS)) (hs_COMPACT_STRINGS : ¬ (i_COMPACT_STRINGS = (0 : Int32))) :
    MetFree l (⟨"java/lang/AbstractStringBuilder", "append", "(J)Ljava/lang/AbstractStringBuilder;"⟩ : MethodName) (head1 (Jvm.Cond.code (⟨"java/lang/AbstractStringBuilder", "append", "(J)Ljava/lang/AbstractStringBuilder;"⟩ : MethodName) jdk_68_method_33_code 5 (some (.object "java/lang/AbstractStringBuilder")) :: ws) ({ frames := 2, cells := 0, slots := 0, locals := 102 } : Room)) (fun aA U => aA = #[(.ref sb_), (.long x_)] ∧ Z.Warmed39 U.vm ∧ U.heap = h0) (fun _ _ _ _ _ => True) (fun _ U o U' => ∃ v L, o = .returned v ∧ Q_ajn Z sb_ cs_ ar_ ka_ cap_ x_ nN_ h0 n0 v U'.heap L ∧ FrameEnd U o U' L ({ frames := 2, cells := 0, slots := 0, locals := 102 } : Room).cells ({ frames := 2, cells := 0, slots := 0, locals := 102 } : Room).slots) := by
  refine MetFree.of_bodySF (plainFor_of_name own_pn_java_lang_AbstractStringBuilder) hisR ?_
  intro p e s m args below meth c s₁ Bd hml0 hP hK
  obtain ⟨rfl, hZ, hh⟩ := hP
  have hx := Bd.exec
  have hby := Bd.bytes
  have hlk : meth.locks = false := BodyLoose.notSynchronized Bd
  have hml : c.maxLocals = 5 := hml0
  have hown : s.vm.findClass "java/lang/AbstractStringBuilder" = some m.cls := findClass_of_methodNamed Bd.named
  have hnm := (name_of_methodNamed Bd.named Bd.method).1
  have X0 : Stand p l e ({ frames := 2, cells := 0, slots := 0, locals := 102 } : Room) s m #[(.ref sb_), (.long x_)] below meth c s₁ [] 0 0 := Stand.of_body Bd
  have e0 : s₁.heap = h0 := by rw [← hh, Bd.state]; rfl
  have N0 := Fr.nil n0
  have K0 : Keep h0 h0 [sb_, ar_] := Keep.refl _ _
  show oG p e below (own_K s (Q_ajn Z sb_ cs_ ar_ ka_ cap_ x_ nN_ h0 n0) ({ frames := 2, cells := 0, slots := 0, locals := 102 } : Room).cells ({ frames := 2, cells := 0, slots := 0, locals := 102 } : Room).slots) (s₁.setTop (entryFrame m #[(.ref sb_), (.long x_)] 5))
  rw [(by first | (simp [entryFrame, mkF, argsToLocals, Value.category]; done) | rfl : entryFrame m #[(.ref sb_), (.long x_)] 5 = mkF m 0 #[sR sb_, sJ x_, sS, sU, sU] [])]
  show oG p e below _ (s₁.setTop (mkF m 0 #[sR sb_, sJ x_, sS, sU, sU] []))
  refine og (fun _ hr => XS.aloadN X0.here hx rfl (hb hby dc20_0) rfl rfl hr) ?_
  show oG p e below _ (s₁.setTop (mkF m 1 #[sR sb_, sJ x_, sS, sU, sU] [(.ref sb_)]))
  obtain ⟨T1, X1, e1, st1⟩ := getF X0 hx hZ hown (host := "") (Or.inl (hw _ (own_m 87 rfl))) Via.refl e0 Nb_ (g := (mkF m 1 #[sR sb_, sJ x_, sS, sU, sU] [(.ref sb_)])) rfl rfl (hb hby dc20_1)
  refine og st1 ?_
  show oG p e below _ (T1.setTop (mkF m 4 #[sR sb_, sJ x_, sS, sU, sU] [(.int cn_)]))
  refine og (fun _ hr => XS.istoreN X1.here hx rfl (hb hby dc20_4) rfl (l' := #[sR sb_, sJ x_, sS, sI cn_, sU]) rfl (XS.iloadN X1.here hx rfl (hb hby dc20_5) rfl (XS.lloadN X1.here hx rfl (hb hby dc20_6) rfl hr))) ?_
  show oG p e below _ (T1.setTop (mkF m 7 #[sR sb_, sJ x_, sS, sI cn_, sU] [(.long x_), (.int cn_)]))
  refine own_ssz X1 hx hZ hown hw (hw _ (own_m 123 rfl)) (hw _ (own_m 124 rfl)) (hw _ (own_m 125 rfl)) hn63_ hng_ (by decide) (W := 1) (by decide) (by decide) (by decide) e1 (by rw [hml]; rfl) (Nat.le_of_eq rfl) (hb hby dc20_7) ?_
  intro T2 X2 e2
  show oG p e below _ (T2.setTop (mkF m 10 #[sR sb_, sJ x_, sS, sI cn_, sU] [(.int (Int32.ofNat (Jvm.Free.SBG.digitsL nN_ + Jvm.Free.SBG.GetCharsL.sgnL x_))), (.int cn_)]))
  refine og (fun _ hr => XS.iadd X2.here hx rfl (hb hby dc20_10) rfl (XS.istore X2.here hx rfl (hb hby dc20_11) rfl (l' := #[sR sb_, sJ x_, sS, sI cn_, sI (cn_ + (Int32.ofNat (Jvm.Free.SBG.digitsL nN_ + Jvm.Free.SBG.GetCharsL.sgnL x_)))]) rfl hr)) ?_
  show oG p e below _ (T2.setTop (mkF m 13 #[sR sb_, sJ x_, sS, sI cn_, sI (cn_ + (Int32.ofNat (Jvm.Free.SBG.digitsL nN_ + Jvm.Free.SBG.GetCharsL.sgnL x_)))] []))
  generalize hid_ : (cn_ + (Int32.ofNat (Jvm.Free.SBG.digitsL nN_ + Jvm.Free.SBG.GetCharsL.sgnL x_))) = id_
  have hidN_ : Int32.ofNat (cs_.length + (Jvm.Free.SBG.digitsL nN_ + Jvm.Free.SBG.GetCharsL.sgnL x_)) = id_ := (own_add hcn_ rfl).trans hid_
  refine og (fun _ hr => XS.aloadN X2.here hx rfl (hb hby dc20_13) rfl rfl (XS.iload X2.here hx rfl (hb hby dc20_14) rfl hr)) ?_
  show oG p e below _ (T2.setTop (mkF m 16 #[sR sb_, sJ x_, sS, sI cn_, sI id_] [(.int id_), (.ref sb_)]))
  refine own_cv X2 hx hZ hown (notFace_of_selects (args := #[]) (mvT hZ (hw _ (own_m 92 rfl)))) (hw _ (own_m 89 rfl)) (own_decl (hw _ (own_m 90 rfl)) (hw _ (own_m 93 rfl))) (hw _ (own_m 92 rfl)) (hw _ (own_m 90 rfl)) (hw _ (own_m 56 rfl)) (hw _ (own_m 93 rfl)) (by decide) Eb_ (rm := { frames := 0, cells := 0, slots := 0, locals := 0 }) (rm_en l Z a0 hw [] sb_ id_ cn_ ar_ ka_ cap_ va_ h0 n0 Z0 Eb_ Vb_ Cb_ Nb_ Ka_ (own_ngr hidN_ hfit_ hc4_ hc0_)) (by decide) (W := 0) (by decide) (by decide) (by decide) e2 (by rw [hml]; rfl) (argsL := [(.int id_)]) (lenOf own_pd12 rfl) (rest := []) rfl rfl (Nat.le_of_eq rfl) (hb hby dc20_16) ?_
  intro _ T3 L3 X3 hQ3
  obtain ⟨rfl, N3q, e3⟩ := hQ3
  have N3 := Fr.app N0 N3q
  show oG p e below _ (T3.setTop (mkF m 19 #[sR sb_, sJ x_, sS, sI cn_, sI id_] []))
  refine og (fun _ hr => XS.aloadN X3.here hx rfl (hb hby dc20_19) rfl rfl hr) ?_
  show oG p e below _ (T3.setTop (mkF m 20 #[sR sb_, sJ x_, sS, sI cn_, sI id_] [(.ref sb_)]))
  refine own_cv X3 hx hZ hown (notFace_of_selects (args := #[]) (mvT hZ (hw _ (own_m 131 rfl)))) (hw _ (own_m 128 rfl)) (hw _ (own_m 129 rfl)) (hw _ (own_m 131 rfl)) (hw _ (own_m 130 rfl)) (hw _ (own_m 56 rfl)) (hw _ (own_m 132 rfl)) (by decide) Eb_ (rm := { frames := 0, cells := 0, slots := 0, locals := 0 }) (rm_isLatin1_6 l Z a0 hw [] sb_ i_COMPACT_STRINGS h0 n0 Z0 S_COMPACT_STRINGS Cb_ hs_COMPACT_STRINGS) (by decide) (W := 0) (by decide) (by decide) (by decide) e3 (by rw [hml]; rfl) (argsL := []) (lenOf own_pd15 rfl) (rest := []) rfl rfl (Nat.le_of_eq rfl) (hb hby dc20_20) ?_
  intro _ T4 L4 X4 hQ4
  obtain ⟨rfl, N4q, e4⟩ := hQ4
  have N4 := Fr.app N3 N4q
  show oG p e below _ (T4.setTop (mkF m 23 #[sR sb_, sJ x_, sS, sI cn_, sI id_] [(.int 1)]))
  refine og (fun _ hr => XS.ifNo X4.here hx rfl (hb hby dc20_23) rfl ((if0 _ _).trans (feq (by decide)).1) (XS.lloadN X4.here hx rfl (hb hby dc20_26) rfl (XS.iload X4.here hx rfl (hb hby dc20_27) rfl (XS.aloadN X4.here hx rfl (hb hby dc20_29) rfl rfl hr)))) ?_
  show oG p e below _ (T4.setTop (mkF m 30 #[sR sb_, sJ x_, sS, sI cn_, sI id_] [(.ref sb_), (.int id_), (.long x_)]))
  obtain ⟨T5, X5, e5, st5⟩ := getF X4 hx hZ hown (host := "") (Or.inl (hw _ (own_m 60 rfl))) Via.refl e4 Vb_ (g := (mkF m 30 #[sR sb_, sJ x_, sS, sI cn_, sI id_] [(.ref sb_), (.int id_), (.long x_)])) rfl rfl (hb hby dc20_30)
  refine og st5 ?_
  show oG p e below _ (T5.setTop (mkF m 33 #[sR sb_, sJ x_, sS, sI cn_, sI id_] [(.ref ar_), (.int id_), (.long x_)]))
  have T6d := own_T_keep Td_ K0 (ninS (Nat.ne_of_lt (Nat.lt_of_lt_of_le htn_.1 gsb_)) (ninS (Nat.ne_of_lt (Nat.lt_of_lt_of_le htn_.1 gar_)) nin0)) (ninS (Nat.ne_of_lt (Nat.lt_of_lt_of_le htn_.2.1 gsb_)) (ninS (Nat.ne_of_lt (Nat.lt_of_lt_of_le htn_.2.1 gar_)) nin0)) (ninS (Nat.ne_of_lt (Nat.lt_of_lt_of_le htn_.2.2 gsb_)) (ninS (Nat.ne_of_lt (Nat.lt_of_lt_of_le htn_.2.2 gar_)) nin0))
  refine own_gch X5 hx hZ hown hw (hw _ (own_m 133 rfl)) (hw _ (own_m 134 rfl)) (hw _ (own_m 125 rfl)) hn63_ hng_ hidN_ Ka_ T6d (Ne.symm (Nat.ne_of_lt (Nat.lt_of_lt_of_le htn_.1 gar_))) (Ne.symm (Nat.ne_of_lt (Nat.lt_of_lt_of_le htn_.2.1 gar_))) (Ne.symm (Nat.ne_of_lt (Nat.lt_of_lt_of_le htn_.2.2 gar_))) hfit_ (Nat.le_add_left _ _) hvl_ gar_ (by decide) (W := 0) (by decide) (by decide) (by decide) e5 (by rw [hml]; rfl) (Nat.le_of_eq rfl) (hb hby dc20_33) ?_
  intro T6 L6 va6 X6 N6q K6 f6 hl6 ga6 gb6 gc6
  have N6 := Fr.app N4 N6q
  show oG p e below _ (T6.setTop (mkF m 36 #[sR sb_, sJ x_, sS, sI cn_, sI id_] [(.int (Int32.ofNat ((cs_.length + (Jvm.Free.SBG.digitsL nN_ + Jvm.Free.SBG.GetCharsL.sgnL x_)) - (Jvm.Free.SBG.digitsL nN_ + Jvm.Free.SBG.GetCharsL.sgnL x_))))]))
  refine og (fun _ hr => XS.pop X6.here hx rfl (hb hby dc20_36) rfl rfl (XS.goto X6.here hx rfl (pc0 := 37) (pc' := 52) rfl (hb hby dc20_37) (by decide) (by decide) (XS.aloadN X6.here hx rfl (hb hby dc20_52) rfl rfl (XS.iload X6.here hx rfl (hb hby dc20_53) rfl hr)))) ?_
  show oG p e below _ (T6.setTop (mkF m 55 #[sR sb_, sJ x_, sS, sI cn_, sI id_] [(.int id_), (.ref sb_)]))
  have f7 := (Eb_.keep K6)
  have f8 := (Nb_.keep K6 (ninS nsa_ nin0))
  obtain ⟨T9, h9, X9, e9, W9, st9⟩ := putF X6 hx hZ hown (host := "") (Or.inl (hw _ (own_m 87 rfl))) Via.refl rfl f8 f7 (Or.inl (hw _ (own_m 88 rfl))) (hw _ (own_m 47 rfl)) (ty := .int) (by decide) rfl rfl (g := (mkF m 55 #[sR sb_, sJ x_, sS, sI cn_, sI id_] [(.int id_), (.ref sb_)])) rfl rfl (hb hby dc20_55)
  refine og st9 ?_
  have f10 := f8.same W9
  have N11 := Fr.snoc X9 N6 gsb_
  show oG p e below _ (T9.setTop (mkF m 58 #[sR sb_, sJ x_, sS, sI cn_, sI id_] []))
  refine og (fun _ hr => XS.aloadN X9.here hx rfl (hb hby dc20_58) rfl rfl hr) ?_
  show oG p e below _ (T9.setTop (mkF m 59 #[sR sb_, sJ x_, sS, sI cn_, sI id_] [(.ref sb_)]))
  have K12 := ((K0.trans K6 (allS (Or.inl (List.mem_of_getElem? (i := 1) rfl)) all0)).wr W9 (Or.inl (List.mem_of_getElem? (i := 0) rfl)))
  have f13 := ((Vb_.keep K6 (ninS nsa_ nin0)).other W9 (Or.inr (slot_ne (Or.inl (hw _ (own_m 61 rfl))) (Or.inl (hw _ (own_m 88 rfl))) (by decide) (t := (.array .byte)) (t' := .int) (by decide) (by decide))))
  have f14 := ((Cb_.keep K6 (ninS nsa_ nin0)).other W9 (Or.inr (slot_ne (Or.inl (hw _ (own_m 63 rfl))) (Or.inl (hw _ (own_m 88 rfl))) (by decide) (t := .byte) (t' := .int) (by decide) (by decide))))
  have f15 := (f6.other W9 (Ne.symm nsa_))
  exact own_retR X9 hx hlk Bd.returns rfl rfl (hb hby dc20_59) (by decide) (by decide) (by rw [e9]; exact ⟨va6, rfl, N11, K12, f13, f14, (by rw [hidN_]; exact f10), f15, hl6, (own_dec_hs hhs_ rfl ga6 gb6 gc6)⟩)
def Q_ajg (Z : State) (sb_ : Addr) (cs_ : List Int32) (x_ : Int64) (nN_ : Nat) (h0 : Heap) (n0 : Nat) (v : Option Value) (h : Heap) (L : List Loc) : Prop := (∃ (a : Addr) (k : ClassId) (vb : List Value), v = some (.ref sb_) ∧ Fr n0 L ∧ Keep h0 h [sb_] ∧ n0 ≤ a ∧ h0.size ≤ a ∧ Exa Z h a "[B" ∧ Fld Z h sb_ "java/lang/AbstractStringBuilder" "value" "[B" (.ref a) ∧ Fld Z h sb_ "java/lang/AbstractStringBuilder" "coder" "B" (.int 0) ∧ Fld Z h sb_ "java/lang/AbstractStringBuilder" "count" "I" (.int (Int32.ofNat (cs_.length + (Jvm.Free.SBG.digitsL nN_ + Jvm.Free.SBG.GetCharsL.sgnL x_)))) ∧ Arv Z h a k .byte (34 : Int32) vb (.int 0) ∧ vb.length = (34 : Int32).toNatClampNeg ∧ own_hs vb (cs_ ++ own_dec nN_ x_))
set_option maxRecDepth 65536 in
set_option maxHeartbeats 40000000 in
theorem rm_ajg (l : Launch) (Z : State) (a0 : Array Value) (hw : ∀ d ∈ tables_1, d.before a0 Z = true) (ws : List Jvm.Cond) (sb_ : Addr) (cn_ : Int32) (cs_ : List Int32) (ar_ : Addr) (ka_ : ClassId) (va_ : List Value) (x_ : Int64) (nN_ : Nat) (ist_ : Addr) (da_ : Addr) (db_ : Addr) (Da_ : Cell) (Db_ : Cell) (i_COMPACT_STRINGS : Int32) (h0 : Heap) (n0 : Nat) (Z0 : n0 ≤ h0.size) (Eb_ : Exa Z h0 sb_ "java/lang/StringBuilder") (Vb_ : Fld Z h0 sb_ "java/lang/AbstractStringBuilder" "value" "[B" (.ref ar_)) (Cb_ : Fld Z h0 sb_ "java/lang/AbstractStringBuilder" "coder" "B" (.int 0)) (Nb_ : Fld Z h0 sb_ "java/lang/AbstractStringBuilder" "count" "I" (.int cn_)) (Ka_ : Arv Z h0 ar_ ka_ .byte (16 : Int32) va_ (.int 0)) (hcn_ : Int32.ofNat cs_.length = cn_) (hcl_ : cs_.length ≤ 30) (gsb_ : n0 ≤ sb_) (gar_ : n0 ≤ ar_) (nsa_ : sb_ ≠ ar_) (hhs_ : own_hs va_ cs_) (hc16_ : cs_.length ≤ 16) (hfit_ : (cs_.length + (Jvm.Free.SBG.digitsL nN_ + Jvm.Free.SBG.GetCharsL.sgnL x_)) ≤ 30) (hgr_ : 16 < (cs_.length + (Jvm.Free.SBG.digitsL nN_ + Jvm.Free.SBG.GetCharsL.sgnL x_))) (hn63_ : nN_ ≤ 2 ^ 63) (hng_ : (if x_ < 0 then x_ else -x_) = Jvm.Free.SBG.negL nN_) (Td_ : own_T Z h0 ist_ da_ db_ Da_ Db_) (htn_ : ist_ < n0 ∧ da_ < n0 ∧ db_ < n0) (S_COMPACT_STRINGS : Sta Z h0 "java/lang/String" "COMPACT_STRINGS" "Z" (.int i_COMPACT_STRINGS)) (hs_COMPACT_STRINGS : ¬ (i_COMPACT_STRINGS = (0 : Int32))) :
    MetFree l (⟨"java/lang/AbstractStringBuilder", "append", "(J)Ljava/lang/AbstractStringBuilder;"⟩ : MethodName) (head1 (Jvm.Cond.code (⟨"java/lang/AbstractStringBuilder", "append", "(J)Ljava/lang/AbstractStringBuilder;"⟩ : MethodName) jdk_68_method_33_code 5 (some (.object "java/lang/AbstractStringBuilder")) :: ws) ({ frames := 4, cells := 1, slots := 34, locals := 102 } : Room)) (fun aA U => aA = #[(.ref sb_), (.long x_)] ∧ Z.Warmed39 U.vm ∧ U.heap = h0) (fun _ _ _ _ _ => True) (fun _ U o U' => ∃ v L, o = .returned v ∧ Q_ajg Z sb_ cs_ x_ nN_ h0 n0 v U'.heap L ∧ FrameEnd U o U' L ({ frames := 4, cells := 1, slots := 34, locals := 102 } : Room).cells ({ frames := 4, cells := 1, slots := 34, locals := 102 } : Room).slots) := by
  refine MetFree.of_bodySF (plainFor_of_name own_pn_java_lang_AbstractStringBuilder) hisR ?_
  intro p e s m args below meth c s₁ Bd hml0 hP hK
  obtain ⟨rfl, hZ, hh⟩ := hP
  have hx := Bd.exec
  have hby := Bd.bytes
  have hlk : meth.locks = false := BodyLoose.notSynchronized Bd
  have hml : c.maxLocals = 5 := hml0
  have hown : s.vm.findClass "java/lang/AbstractStringBuilder" = some m.cls := findClass_of_methodNamed Bd.named
  have hnm := (name_of_methodNamed Bd.named Bd.method).1
  have X0 : Stand p l e ({ frames := 4, cells := 1, slots := 34, locals := 102 } : Room) s m #[(.ref sb_), (.long x_)] below meth c s₁ [] 0 0 := Stand.of_body Bd
  have e0 : s₁.heap = h0 := by rw [← hh, Bd.state]; rfl
  have N0 := Fr.nil n0
  have K0 : Keep h0 h0 [sb_] := Keep.refl _ _
  show oG p e below (own_K s (Q_ajg Z sb_ cs_ x_ nN_ h0 n0) ({ frames := 4, cells := 1, slots := 34, locals := 102 } : Room).cells ({ frames := 4, cells := 1, slots := 34, locals := 102 } : Room).slots) (s₁.setTop (entryFrame m #[(.ref sb_), (.long x_)] 5))
  rw [(by first | (simp [entryFrame, mkF, argsToLocals, Value.category]; done) | rfl : entryFrame m #[(.ref sb_), (.long x_)] 5 = mkF m 0 #[sR sb_, sJ x_, sS, sU, sU] [])]
  show oG p e below _ (s₁.setTop (mkF m 0 #[sR sb_, sJ x_, sS, sU, sU] []))
  refine og (fun _ hr => XS.aloadN X0.here hx rfl (hb hby dc20_0) rfl rfl hr) ?_
  show oG p e below _ (s₁.setTop (mkF m 1 #[sR sb_, sJ x_, sS, sU, sU] [(.ref sb_)]))
  obtain ⟨T1, X1, e1, st1⟩ := getF X0 hx hZ hown (host := "") (Or.inl (hw _ (own_m 87 rfl))) Via.refl e0 Nb_ (g := (mkF m 1 #[sR sb_, sJ x_, sS, sU, sU] [(.ref sb_)])) rfl rfl (hb hby dc20_1)
  refine og st1 ?_
  show oG p e below _ (T1.setTop (mkF m 4 #[sR sb_, sJ x_, sS, sU, sU] [(.int cn_)]))
  refine og (fun _ hr => XS.istoreN X1.here hx rfl (hb hby dc20_4) rfl (l' := #[sR sb_, sJ x_, sS, sI cn_, sU]) rfl (XS.iloadN X1.here hx rfl (hb hby dc20_5) rfl (XS.lloadN X1.here hx rfl (hb hby dc20_6) rfl hr))) ?_
  show oG p e below _ (T1.setTop (mkF m 7 #[sR sb_, sJ x_, sS, sI cn_, sU] [(.long x_), (.int cn_)]))
  refine own_ssz X1 hx hZ hown hw (hw _ (own_m 123 rfl)) (hw _ (own_m 124 rfl)) (hw _ (own_m 125 rfl)) hn63_ hng_ (by decide) (W := 1) (by decide) (by decide) (by decide) e1 (by rw [hml]; rfl) (Nat.le_of_eq rfl) (hb hby dc20_7) ?_
  intro T2 X2 e2
  show oG p e below _ (T2.setTop (mkF m 10 #[sR sb_, sJ x_, sS, sI cn_, sU] [(.int (Int32.ofNat (Jvm.Free.SBG.digitsL nN_ + Jvm.Free.SBG.GetCharsL.sgnL x_))), (.int cn_)]))
  refine og (fun _ hr => XS.iadd X2.here hx rfl (hb hby dc20_10) rfl (XS.istore X2.here hx rfl (hb hby dc20_11) rfl (l' := #[sR sb_, sJ x_, sS, sI cn_, sI (cn_ + (Int32.ofNat (Jvm.Free.SBG.digitsL nN_ + Jvm.Free.SBG.GetCharsL.sgnL x_)))]) rfl hr)) ?_
  show oG p e below _ (T2.setTop (mkF m 13 #[sR sb_, sJ x_, sS, sI cn_, sI (cn_ + (Int32.ofNat (Jvm.Free.SBG.digitsL nN_ + Jvm.Free.SBG.GetCharsL.sgnL x_)))] []))
  generalize hid_ : (cn_ + (Int32.ofNat (Jvm.Free.SBG.digitsL nN_ + Jvm.Free.SBG.GetCharsL.sgnL x_))) = id_
  have hidN_ : Int32.ofNat (cs_.length + (Jvm.Free.SBG.digitsL nN_ + Jvm.Free.SBG.GetCharsL.sgnL x_)) = id_ := (own_add hcn_ rfl).trans hid_
  have hg0_ : (16 : Int32) < id_ := own_gtN (c := 16) hidN_ hgr_ (by omega)
  have hg1_ : ¬ ((30 : Int32) < id_) := own_leN (c := 30) hidN_ hfit_ (by decide)
  refine og (fun _ hr => XS.aloadN X2.here hx rfl (hb hby dc20_13) rfl rfl (XS.iload X2.here hx rfl (hb hby dc20_14) rfl hr)) ?_
  show oG p e below _ (T2.setTop (mkF m 16 #[sR sb_, sJ x_, sS, sI cn_, sI id_] [(.int id_), (.ref sb_)]))
  refine own_cv X2 hx hZ hown (notFace_of_selects (args := #[]) (mvT hZ (hw _ (own_m 92 rfl)))) (hw _ (own_m 89 rfl)) (own_decl (hw _ (own_m 90 rfl)) (hw _ (own_m 93 rfl))) (hw _ (own_m 92 rfl)) (hw _ (own_m 90 rfl)) (hw _ (own_m 56 rfl)) (hw _ (own_m 93 rfl)) (by decide) Eb_ (rm := { frames := 3, cells := 1, slots := 34, locals := 55 }) (rm_eg l Z a0 hw [] sb_ id_ cn_ ar_ ka_ va_ h0 n0 Z0 Eb_ Vb_ Cb_ Nb_ Ka_ gsb_ nsa_ hg0_ hg1_) (by decide) (W := 0) (by decide) (by decide) (by decide) e2 (by rw [hml]; rfl) (argsL := [(.int id_)]) (lenOf own_pd12 rfl) (rest := []) rfl rfl (Nat.le_of_eq rfl) (hb hby dc20_16) ?_
  intro _ T3 L3 X3 hQ3
  obtain ⟨b3_0, kb3_0, rfl, N3q, K3, ge3_0, sz3_0, f3_0, f3_1, f3_2, f3_3, f3_4⟩ := hQ3
  have N3 := Fr.app N0 N3q
  have sz4 : h0.size ≤ b3_0 := Nat.le_trans K0.1 sz3_0
  show oG p e below _ (T3.setTop (mkF m 19 #[sR sb_, sJ x_, sS, sI cn_, sI id_] []))
  refine og (fun _ hr => XS.aloadN X3.here hx rfl (hb hby dc20_19) rfl rfl hr) ?_
  show oG p e below _ (T3.setTop (mkF m 20 #[sR sb_, sJ x_, sS, sI cn_, sI id_] [(.ref sb_)]))
  have f6 := (own_sta_keep S_COMPACT_STRINGS K3 (allS (own_ns_exa Eb_) all0))
  have Z7 := (Nat.le_trans Z0 K3.1)
  have f8 := (Eb_.keep K3)
  refine own_cv X3 hx hZ hown (notFace_of_selects (args := #[]) (mvT hZ (hw _ (own_m 131 rfl)))) (hw _ (own_m 128 rfl)) (hw _ (own_m 129 rfl)) (hw _ (own_m 131 rfl)) (hw _ (own_m 130 rfl)) (hw _ (own_m 56 rfl)) (hw _ (own_m 132 rfl)) (by decide) f8 (rm := { frames := 0, cells := 0, slots := 0, locals := 0 }) (rm_isLatin1_6 l Z a0 hw [] sb_ i_COMPACT_STRINGS T3.heap n0 Z7 f6 f3_2 hs_COMPACT_STRINGS) (by decide) (W := 0) (by decide) (by decide) (by decide) rfl (by rw [hml]; rfl) (argsL := []) (lenOf own_pd15 rfl) (rest := []) rfl rfl (Nat.le_of_eq rfl) (hb hby dc20_20) ?_
  intro _ T5 L5 X5 hQ5
  obtain ⟨rfl, N5q, e5⟩ := hQ5
  have N5 := Fr.app N3 N5q
  show oG p e below _ (T5.setTop (mkF m 23 #[sR sb_, sJ x_, sS, sI cn_, sI id_] [(.int 1)]))
  refine og (fun _ hr => XS.ifNo X5.here hx rfl (hb hby dc20_23) rfl ((if0 _ _).trans (feq (by decide)).1) (XS.lloadN X5.here hx rfl (hb hby dc20_26) rfl (XS.iload X5.here hx rfl (hb hby dc20_27) rfl (XS.aloadN X5.here hx rfl (hb hby dc20_29) rfl rfl hr)))) ?_
  show oG p e below _ (T5.setTop (mkF m 30 #[sR sb_, sJ x_, sS, sI cn_, sI id_] [(.ref sb_), (.int id_), (.long x_)]))
  obtain ⟨T9, X9, e9, st9⟩ := getF X5 hx hZ hown (host := "") (Or.inl (hw _ (own_m 60 rfl))) Via.refl e5 f3_1 (g := (mkF m 30 #[sR sb_, sJ x_, sS, sI cn_, sI id_] [(.ref sb_), (.int id_), (.long x_)])) rfl rfl (hb hby dc20_30)
  refine og st9 ?_
  show oG p e below _ (T9.setTop (mkF m 33 #[sR sb_, sJ x_, sS, sI cn_, sI id_] [(.ref b3_0), (.int id_), (.long x_)]))
  have K11 := (K0.trans K3 (allS (Or.inl (List.mem_of_getElem? (i := 0) rfl)) all0))
  have T10d := own_T_keep Td_ K11 (ninS (Nat.ne_of_lt (Nat.lt_of_lt_of_le htn_.1 gsb_)) nin0) (ninS (Nat.ne_of_lt (Nat.lt_of_lt_of_le htn_.2.1 gsb_)) nin0) (ninS (Nat.ne_of_lt (Nat.lt_of_lt_of_le htn_.2.2 gsb_)) nin0)
  refine own_gch X9 hx hZ hown hw (hw _ (own_m 133 rfl)) (hw _ (own_m 134 rfl)) (hw _ (own_m 125 rfl)) hn63_ hng_ hidN_ f3_4 T10d (Ne.symm (Nat.ne_of_lt (Nat.lt_of_lt_of_le htn_.1 ge3_0))) (Ne.symm (Nat.ne_of_lt (Nat.lt_of_lt_of_le htn_.2.1 ge3_0))) (Ne.symm (Nat.ne_of_lt (Nat.lt_of_lt_of_le htn_.2.2 ge3_0))) (show (cs_.length + (Jvm.Free.SBG.digitsL nN_ + Jvm.Free.SBG.GetCharsL.sgnL x_)) ≤ 34 from by omega) (Nat.le_add_left _ _) (own_grow_len va_) ge3_0 (by decide) (W := 0) (by decide) (by decide) (by decide) e9 (by rw [hml]; rfl) (Nat.le_of_eq rfl) (hb hby dc20_33) ?_
  intro T10 L10 va10 X10 N10q K10 f10 hl10 ga10 gb10 gc10
  have N10 := Fr.app N5 N10q
  show oG p e below _ (T10.setTop (mkF m 36 #[sR sb_, sJ x_, sS, sI cn_, sI id_] [(.int (Int32.ofNat ((cs_.length + (Jvm.Free.SBG.digitsL nN_ + Jvm.Free.SBG.GetCharsL.sgnL x_)) - (Jvm.Free.SBG.digitsL nN_ + Jvm.Free.SBG.GetCharsL.sgnL x_))))]))
  refine og (fun _ hr => XS.pop X10.here hx rfl (hb hby dc20_36) rfl rfl (XS.goto X10.here hx rfl (pc0 := 37) (pc' := 52) rfl (hb hby dc20_37) (by decide) (by decide) (XS.aloadN X10.here hx rfl (hb hby dc20_52) rfl rfl (XS.iload X10.here hx rfl (hb hby dc20_53) rfl hr)))) ?_
  show oG p e below _ (T10.setTop (mkF m 55 #[sR sb_, sJ x_, sS, sI cn_, sI id_] [(.int id_), (.ref sb_)]))
  have f12 := (f8.keep K10)
  have f13 := (f3_3.keep K10 (ninS (Nat.ne_of_lt (Nat.lt_of_lt_of_le Eb_.lt sz3_0)) nin0))
  obtain ⟨T14, h14, X14, e14, W14, st14⟩ := putF X10 hx hZ hown (host := "") (Or.inl (hw _ (own_m 87 rfl))) Via.refl rfl f13 f12 (Or.inl (hw _ (own_m 88 rfl))) (hw _ (own_m 47 rfl)) (ty := .int) (by decide) rfl rfl (g := (mkF m 55 #[sR sb_, sJ x_, sS, sI cn_, sI id_] [(.int id_), (.ref sb_)])) rfl rfl (hb hby dc20_55)
  refine og st14 ?_
  have f15 := f13.same W14
  have N16 := Fr.snoc X14 N10 gsb_
  show oG p e below _ (T14.setTop (mkF m 58 #[sR sb_, sJ x_, sS, sI cn_, sI id_] []))
  refine og (fun _ hr => XS.aloadN X14.here hx rfl (hb hby dc20_58) rfl rfl hr) ?_
  show oG p e below _ (T14.setTop (mkF m 59 #[sR sb_, sJ x_, sS, sI cn_, sI id_] [(.ref sb_)]))
  have K17 := ((K11.trans K10 (allS (Or.inr sz4) all0)).wr W14 (Or.inl (List.mem_of_getElem? (i := 0) rfl)))
  have f18 := ((f3_0.keep K10).wr W14)
  have f19 := ((f3_1.keep K10 (ninS (Nat.ne_of_lt (Nat.lt_of_lt_of_le Eb_.lt sz3_0)) nin0)).other W14 (Or.inr (slot_ne (Or.inl (hw _ (own_m 61 rfl))) (Or.inl (hw _ (own_m 88 rfl))) (by decide) (t := (.array .byte)) (t' := .int) (by decide) (by decide))))
  have f20 := ((f3_2.keep K10 (ninS (Nat.ne_of_lt (Nat.lt_of_lt_of_le Eb_.lt sz3_0)) nin0)).other W14 (Or.inr (slot_ne (Or.inl (hw _ (own_m 63 rfl))) (Or.inl (hw _ (own_m 88 rfl))) (by decide) (t := .byte) (t' := .int) (by decide) (by decide))))
  have f21 := (f10.other W14 (Ne.symm (Nat.ne_of_lt (Nat.lt_of_lt_of_le Eb_.lt sz3_0))))
  exact own_retR X14 hx hlk Bd.returns rfl rfl (hb hby dc20_59) (by decide) (by decide) (by rw [e14]; exact ⟨b3_0, kb3_0, va10, rfl, N16, K17, ge3_0, sz4, f18, f19, f20, (by rw [hidN_]; exact f15), f21, hl10, (own_dec_hs (own_grow_hs hhs_ hc16_) rfl ga10 gb10 gc10)⟩)
theorem dc19_0 : decode jdk_67_method_16_code 0 = .ok (.aload_n 0, 1) := by decide +kernel
theorem dc19_1 : decode jdk_67_method_16_code 1 = .ok (.lload_n 1, 1) := by decide +kernel
theorem dc19_2 : decode jdk_67_method_16_code 2 = .ok (.invokespecial 56, 3) := by decide +kernel
theorem own_pd16 : parseMethodDescriptor "(J)Ljava/lang/AbstractStringBuilder;" = some ⟨[.long], some (.object "java/lang/AbstractStringBuilder")⟩ := by decide +kernel
theorem dc19_5 : decode jdk_67_method_16_code 5 = .ok (.pop, 1) := by decide +kernel
theorem dc19_6 : decode jdk_67_method_16_code 6 = .ok (.aload_n 0, 1) := by decide +kernel
theorem dc19_7 : decode jdk_67_method_16_code 7 = .ok (.areturn, 1) := by decide +kernel
def Q_sjn (Z : State) (sb_ : Addr) (cs_ : List Int32) (ar_ : Addr) (ka_ : ClassId) (cap_ : Int32) (x_ : Int64) (nN_ : Nat) (h0 : Heap) (n0 : Nat) (v : Option Value) (h : Heap) (L : List Loc) : Prop := (∃ (vb : List Value), v = some (.ref sb_) ∧ Fr n0 L ∧ Keep h0 h [sb_, ar_] ∧ Fld Z h sb_ "java/lang/AbstractStringBuilder" "value" "[B" (.ref ar_) ∧ Fld Z h sb_ "java/lang/AbstractStringBuilder" "coder" "B" (.int 0) ∧ Fld Z h sb_ "java/lang/AbstractStringBuilder" "count" "I" (.int (Int32.ofNat (cs_.length + (Jvm.Free.SBG.digitsL nN_ + Jvm.Free.SBG.GetCharsL.sgnL x_)))) ∧ Arv Z h ar_ ka_ .byte cap_ vb (.int 0) ∧ vb.length = cap_.toNatClampNeg ∧ own_hs vb (cs_ ++ own_dec nN_ x_))
set_option maxRecDepth 65536 in
set_option maxHeartbeats 40000000 in
theorem rm_sjn (l : Launch) (Z : State) (a0 : Array Value) (hw : ∀ d ∈ tables_1, d.before a0 Z = true) (ws : List Jvm.Cond) (sb_ : Addr) (cn_ : Int32) (cs_ : List Int32) (ar_ : Addr) (ka_ : ClassId) (cap_ : Int32) (va_ : List Value) (x_ : Int64) (nN_ : Nat) (ist_ : Addr) (da_ : Addr) (db_ : Addr) (Da_ : Cell) (Db_ : Cell) (i_COMPACT_STRINGS : Int32) (h0 : Heap) (n0 : Nat) (Z0 : n0 ≤ h0.size) (Eb_ : Exa Z h0 sb_ "java/lang/StringBuilder") (Vb_ : Fld Z h0 sb_ "java/lang/AbstractStringBuilder" "value" "[B" (.ref ar_)) (Cb_ : Fld Z h0 sb_ "java/lang/AbstractStringBuilder" "coder" "B" (.int 0)) (Nb_ : Fld Z h0 sb_ "java/lang/AbstractStringBuilder" "count" "I" (.int cn_)) (Ka_ : Arv Z h0 ar_ ka_ .byte cap_ va_ (.int 0)) (hcn_ : Int32.ofNat cs_.length = cn_) (hcl_ : cs_.length ≤ 30) (gsb_ : n0 ≤ sb_) (gar_ : n0 ≤ ar_) (nsa_ : sb_ ≠ ar_) (hvl_ : va_.length = cap_.toNatClampNeg) (hc4_ : cap_.toNatClampNeg < 4000) (hc0_ : ¬ cap_ < 0) (hhs_ : own_hs va_ cs_) (hfit_ : (cs_.length + (Jvm.Free.SBG.digitsL nN_ + Jvm.Free.SBG.GetCharsL.sgnL x_)) ≤ cap_.toNatClampNeg) (hn63_ : nN_ ≤ 2 ^ 63) (hng_ : (if x_ < 0 then x_ else -x_) = Jvm.Free.SBG.negL nN_) (Td_ : own_T Z h0 ist_ da_ db_ Da_ Db_) (htn_ : ist_ < n0 ∧ da_ < n0 ∧ db_ < n0) (S_COMPACT_STRINGS : Sta Z h0 "java/lang/String" "COMPACT_STRINGS" "Z" (.int i_COMPACT_STRINGS)) (hs_COMPACT_STRINGS : ¬ (i_COMPACT_STRINGS = (0 : Int32))) :
    MetFree l (⟨"java/lang/StringBuilder", "append", "(J)Ljava/lang/StringBuilder;"⟩ : MethodName) (head1 (Jvm.Cond.code (⟨"java/lang/StringBuilder", "append", "(J)Ljava/lang/StringBuilder;"⟩ : MethodName) jdk_67_method_16_code 3 (some (.object "java/lang/StringBuilder")) :: ws) ({ frames := 3, cells := 0, slots := 0, locals := 118 } : Room)) (fun aA U => aA = #[(.ref sb_), (.long x_)] ∧ Z.Warmed39 U.vm ∧ U.heap = h0) (fun _ _ _ _ _ => True) (fun _ U o U' => ∃ v L, o = .returned v ∧ Q_sjn Z sb_ cs_ ar_ ka_ cap_ x_ nN_ h0 n0 v U'.heap L ∧ FrameEnd U o U' L ({ frames := 3, cells := 0, slots := 0, locals := 118 } : Room).cells ({ frames := 3, cells := 0, slots := 0, locals := 118 } : Room).slots) := by
  refine MetFree.of_bodySF (plainFor_of_name own_pn_java_lang_StringBuilder) hisR ?_
  intro p e s m args below meth c s₁ Bd hml0 hP hK
  obtain ⟨rfl, hZ, hh⟩ := hP
  have hx := Bd.exec
  have hby := Bd.bytes
  have hlk : meth.locks = false := BodyLoose.notSynchronized Bd
  have hml : c.maxLocals = 3 := hml0
  have hown : s.vm.findClass "java/lang/StringBuilder" = some m.cls := findClass_of_methodNamed Bd.named
  have hnm := (name_of_methodNamed Bd.named Bd.method).1
  have X0 : Stand p l e ({ frames := 3, cells := 0, slots := 0, locals := 118 } : Room) s m #[(.ref sb_), (.long x_)] below meth c s₁ [] 0 0 := Stand.of_body Bd
  have e0 : s₁.heap = h0 := by rw [← hh, Bd.state]; rfl
  have N0 := Fr.nil n0
  have K0 : Keep h0 h0 [sb_, ar_] := Keep.refl _ _
  show oG p e below (own_K s (Q_sjn Z sb_ cs_ ar_ ka_ cap_ x_ nN_ h0 n0) ({ frames := 3, cells := 0, slots := 0, locals := 118 } : Room).cells ({ frames := 3, cells := 0, slots := 0, locals := 118 } : Room).slots) (s₁.setTop (entryFrame m #[(.ref sb_), (.long x_)] 3))
  rw [(by first | (simp [entryFrame, mkF, argsToLocals, Value.category]; done) | rfl : entryFrame m #[(.ref sb_), (.long x_)] 3 = mkF m 0 #[sR sb_, sJ x_, sS] [])]
  show oG p e below _ (s₁.setTop (mkF m 0 #[sR sb_, sJ x_, sS] []))
  refine og (fun _ hr => XS.aloadN X0.here hx rfl (hb hby dc19_0) rfl rfl (XS.lloadN X0.here hx rfl (hb hby dc19_1) rfl hr)) ?_
  show oG p e below _ (s₁.setTop (mkF m 2 #[sR sb_, sJ x_, sS] [(.long x_), (.ref sb_)]))
  refine own_su X0 hx hZ hown (hw _ (own_m 119 rfl)) (own_smm (hw _ (own_m 120 rfl)) (hw _ (own_m 92 rfl)) (hw _ (own_m 90 rfl)) rfl (by decide)) (hw _ (own_m 120 rfl)) (hw _ (own_m 74 rfl)) (hw _ (own_m 56 rfl)) (hw _ (own_m 122 rfl)) (by decide) (Ins.self Eb_) (rm := { frames := 2, cells := 0, slots := 0, locals := 102 }) (rm_ajn l Z a0 hw [] sb_ cn_ cs_ ar_ ka_ cap_ va_ x_ nN_ ist_ da_ db_ Da_ Db_ i_COMPACT_STRINGS h0 n0 Z0 Eb_ Vb_ Cb_ Nb_ Ka_ hcn_ hcl_ gsb_ gar_ nsa_ hvl_ hc4_ hc0_ hhs_ hfit_ hn63_ hng_ Td_ htn_ S_COMPACT_STRINGS hs_COMPACT_STRINGS) (by decide) (W := 0) (by decide) (by decide) (by decide) e0 (by rw [hml]; rfl) (argsL := [(.long x_)]) (lenOf own_pd16 rfl) (rest := []) rfl rfl (Nat.le_of_eq rfl) (hb hby dc19_2) ?_
  intro _ T1 L1 X1 hQ1
  obtain ⟨w1_0, rfl, N1q, K1, f1_0, f1_1, f1_2, f1_3, hx1_0, hx1_1⟩ := hQ1
  have N1 := Fr.app N0 N1q
  show oG p e below _ (T1.setTop (mkF m 5 #[sR sb_, sJ x_, sS] [(.ref sb_)]))
  refine og (fun _ hr => XS.pop X1.here hx rfl (hb hby dc19_5) rfl rfl (XS.aloadN X1.here hx rfl (hb hby dc19_6) rfl rfl hr)) ?_
  show oG p e below _ (T1.setTop (mkF m 7 #[sR sb_, sJ x_, sS] [(.ref sb_)]))
  have K2 := (K0.trans K1 (allS (Or.inl (List.mem_of_getElem? (i := 0) rfl)) (allS (Or.inl (List.mem_of_getElem? (i := 1) rfl)) all0)))
  exact own_retR X1 hx hlk Bd.returns rfl rfl (hb hby dc19_7) (by decide) (by decide) (by exact ⟨w1_0, rfl, N1, K2, f1_0, f1_1, f1_2, f1_3, hx1_0, hx1_1⟩)
def Q_sjg (Z : State) (sb_ : Addr) (cs_ : List Int32) (x_ : Int64) (nN_ : Nat) (h0 : Heap) (n0 : Nat) (v : Option Value) (h : Heap) (L : List Loc) : Prop := (∃ (a : Addr) (k : ClassId) (vb : List Value), v = some (.ref sb_) ∧ Fr n0 L ∧ Keep h0 h [sb_] ∧ n0 ≤ a ∧ h0.size ≤ a ∧ Exa Z h a "[B" ∧ Fld Z h sb_ "java/lang/AbstractStringBuilder" "value" "[B" (.ref a) ∧ Fld Z h sb_ "java/lang/AbstractStringBuilder" "coder" "B" (.int 0) ∧ Fld Z h sb_ "java/lang/AbstractStringBuilder" "count" "I" (.int (Int32.ofNat (cs_.length + (Jvm.Free.SBG.digitsL nN_ + Jvm.Free.SBG.GetCharsL.sgnL x_)))) ∧ Arv Z h a k .byte (34 : Int32) vb (.int 0) ∧ vb.length = (34 : Int32).toNatClampNeg ∧ own_hs vb (cs_ ++ own_dec nN_ x_))
set_option maxRecDepth 65536 in
set_option maxHeartbeats 40000000 in
theorem rm_sjg (l : Launch) (Z : State) (a0 : Array Value) (hw : ∀ d ∈ tables_1, d.before a0 Z = true) (ws : List Jvm.Cond) (sb_ : Addr) (cn_ : Int32) (cs_ : List Int32) (ar_ : Addr) (ka_ : ClassId) (va_ : List Value) (x_ : Int64) (nN_ : Nat) (ist_ : Addr) (da_ : Addr) (db_ : Addr) (Da_ : Cell) (Db_ : Cell) (i_COMPACT_STRINGS : Int32) (h0 : Heap) (n0 : Nat) (Z0 : n0 ≤ h0.size) (Eb_ : Exa Z h0 sb_ "java/lang/StringBuilder") (Vb_ : Fld Z h0 sb_ "java/lang/AbstractStringBuilder" "value" "[B" (.ref ar_)) (Cb_ : Fld Z h0 sb_ "java/lang/AbstractStringBuilder" "coder" "B" (.int 0)) (Nb_ : Fld Z h0 sb_ "java/lang/AbstractStringBuilder" "count" "I" (.int cn_)) (Ka_ : Arv Z h0 ar_ ka_ .byte (16 : Int32) va_ (.int 0)) (hcn_ : Int32.ofNat cs_.length = cn_) (hcl_ : cs_.length ≤ 30) (gsb_ : n0 ≤ sb_) (gar_ : n0 ≤ ar_) (nsa_ : sb_ ≠ ar_) (hhs_ : own_hs va_ cs_) (hc16_ : cs_.length ≤ 16) (hfit_ : (cs_.length + (Jvm.Free.SBG.digitsL nN_ + Jvm.Free.SBG.GetCharsL.sgnL x_)) ≤ 30) (hgr_ : 16 < (cs_.length + (Jvm.Free.SBG.digitsL nN_ + Jvm.Free.SBG.GetCharsL.sgnL x_))) (hn63_ : nN_ ≤ 2 ^ 63) (hng_ : (if x_ < 0 then x_ else -x_) = Jvm.Free.SBG.negL nN_) (Td_ : own_T Z h0 ist_ da_ db_ Da_ Db_) (htn_ : ist_ < n0 ∧ da_ < n0 ∧ db_ < n0) (S_COMPACT_STRINGS : Sta Z h0 "java/lang/String" "COMPACT_STRINGS" "Z" (.int i_COMPACT_STRINGS)) (hs_COMPACT_STRINGS : ¬ (i_COMPACT_STRINGS = (0 : Int32))) :
    MetFree l (⟨"java/lang/StringBuilder", "append", "(J)Ljava/lang/StringBuilder;"⟩ : MethodName) (head1 (Jvm.Cond.code (⟨"java/lang/StringBuilder", "append", "(J)Ljava/lang/StringBuilder;"⟩ : MethodName) jdk_67_method_16_code 3 (some (.object "java/lang/StringBuilder")) :: ws) ({ frames := 5, cells := 1, slots := 34, locals := 118 } : Room)) (fun aA U => aA = #[(.ref sb_), (.long x_)] ∧ Z.Warmed39 U.vm ∧ U.heap = h0) (fun _ _ _ _ _ => True) (fun _ U o U' => ∃ v L, o = .returned v ∧ Q_sjg Z sb_ cs_ x_ nN_ h0 n0 v U'.heap L ∧ FrameEnd U o U' L ({ frames := 5, cells := 1, slots := 34, locals := 118 } : Room).cells ({ frames := 5, cells := 1, slots := 34, locals := 118 } : Room).slots) := by
  refine MetFree.of_bodySF (plainFor_of_name own_pn_java_lang_StringBuilder) hisR ?_
  intro p e s m args below meth c s₁ Bd hml0 hP hK
  obtain ⟨rfl, hZ, hh⟩ := hP
  have hx := Bd.exec
  have hby := Bd.bytes
  have hlk : meth.locks = false := BodyLoose.notSynchronized Bd
  have hml : c.maxLocals = 3 := hml0
  have hown : s.vm.findClass "java/lang/StringBuilder" = some m.cls := findClass_of_methodNamed Bd.named
  have hnm := (name_of_methodNamed Bd.named Bd.method).1
  have X0 : Stand p l e ({ frames := 5, cells := 1, slots := 34, locals := 118 } : Room) s m #[(.ref sb_), (.long x_)] below meth c s₁ [] 0 0 := Stand.of_body Bd
  have e0 : s₁.heap = h0 := by rw [← hh, Bd.state]; rfl
  have N0 := Fr.nil n0
  have K0 : Keep h0 h0 [sb_] := Keep.refl _ _
  show oG p e below (own_K s (Q_sjg Z sb_ cs_ x_ nN_ h0 n0) ({ frames := 5, cells := 1, slots := 34, locals := 118 } : Room).cells ({ frames := 5, cells := 1, slots := 34, locals := 118 } : Room).slots) (s₁.setTop (entryFrame m #[(.ref sb_), (.long x_)] 3))
  rw [(by first | (simp [entryFrame, mkF, argsToLocals, Value.category]; done) | rfl : entryFrame m #[(.ref sb_), (.long x_)] 3 = mkF m 0 #[sR sb_, sJ x_, sS] [])]
  show oG p e below _ (s₁.setTop (mkF m 0 #[sR sb_, sJ x_, sS] []))
  refine og (fun _ hr => XS.aloadN X0.here hx rfl (hb hby dc19_0) rfl rfl (XS.lloadN X0.here hx rfl (hb hby dc19_1) rfl hr)) ?_
  show oG p e below _ (s₁.setTop (mkF m 2 #[sR sb_, sJ x_, sS] [(.long x_), (.ref sb_)]))
  refine own_su X0 hx hZ hown (hw _ (own_m 119 rfl)) (own_smm (hw _ (own_m 120 rfl)) (hw _ (own_m 92 rfl)) (hw _ (own_m 90 rfl)) rfl (by decide)) (hw _ (own_m 120 rfl)) (hw _ (own_m 74 rfl)) (hw _ (own_m 56 rfl)) (hw _ (own_m 122 rfl)) (by decide) (Ins.self Eb_) (rm := { frames := 4, cells := 1, slots := 34, locals := 102 }) (rm_ajg l Z a0 hw [] sb_ cn_ cs_ ar_ ka_ va_ x_ nN_ ist_ da_ db_ Da_ Db_ i_COMPACT_STRINGS h0 n0 Z0 Eb_ Vb_ Cb_ Nb_ Ka_ hcn_ hcl_ gsb_ gar_ nsa_ hhs_ hc16_ hfit_ hgr_ hn63_ hng_ Td_ htn_ S_COMPACT_STRINGS hs_COMPACT_STRINGS) (by decide) (W := 0) (by decide) (by decide) (by decide) e0 (by rw [hml]; rfl) (argsL := [(.long x_)]) (lenOf own_pd16 rfl) (rest := []) rfl rfl (Nat.le_of_eq rfl) (hb hby dc19_2) ?_
  intro _ T1 L1 X1 hQ1
  obtain ⟨b1_0, kb1_0, w1_0, rfl, N1q, K1, ge1_0, sz1_0, f1_0, f1_1, f1_2, f1_3, f1_4, hx1_0, hx1_1⟩ := hQ1
  have N1 := Fr.app N0 N1q
  have sz2 : h0.size ≤ b1_0 := Nat.le_trans K0.1 sz1_0
  show oG p e below _ (T1.setTop (mkF m 5 #[sR sb_, sJ x_, sS] [(.ref sb_)]))
  refine og (fun _ hr => XS.pop X1.here hx rfl (hb hby dc19_5) rfl rfl (XS.aloadN X1.here hx rfl (hb hby dc19_6) rfl rfl hr)) ?_
  show oG p e below _ (T1.setTop (mkF m 7 #[sR sb_, sJ x_, sS] [(.ref sb_)]))
  have K3 := (K0.trans K1 (allS (Or.inl (List.mem_of_getElem? (i := 0) rfl)) all0))
  exact own_retR X1 hx hlk Bd.returns rfl rfl (hb hby dc19_7) (by decide) (by decide) (by exact ⟨b1_0, kb1_0, w1_0, rfl, N1, K3, ge1_0, sz2, f1_0, f1_1, f1_2, f1_3, f1_4, hx1_0, hx1_1⟩)
theorem own_cpb {fN gN nN : Nat} {f g nn : Int32} (hf : Int32.ofNat fN = f) (hg : Int32.ofNat gN = g) (hn : Int32.ofNat nN = nn) (h1 : fN ≤ gN) (h2 : gN ≤ nN) (h3 : nN < 4000) : ¬ f < 0 ∧ ¬ g < f ∧ ¬ (g - f) < 0 ∧ (g - f).toNatClampNeg = gN - fN ∧ Int32.ofNat (gN - fN) = g - f ∧ f.toNatClampNeg = fN ∧ nn.toNatClampNeg = nN ∧ ¬ (nn - f) < (g - f) := by
  have ef := (own_tnat hf (by omega)).2.2; have eg := (own_tnat hg (by omega)).2.2; have en := (own_tnat hn h3).2.2; have ed := (own_tnat (a := gN - fN) rfl (by omega)).2.2
  have d1 := c_isub g f; have d2 := c_isub nn f; have r1 := rng32 (g - f); have r2 := rng32 (nn - f)
  refine ⟨?_, ?_, ?_, ?_, ?_, ?_, ?_, ?_⟩
  · simp only [Int32.lt_iff_toInt_lt, Int32.reduceToInt]; omega
  · simp only [Int32.lt_iff_toInt_lt, Int32.reduceToInt]; omega
  · simp only [Int32.lt_iff_toInt_lt, Int32.reduceToInt]; omega
  · simp only [Int32.toNatClampNeg]; omega
  · apply Int32.toInt_inj.mp; omega
  · simp only [Int32.toNatClampNeg]; omega
  · simp only [Int32.toNatClampNeg]; omega
  · simp only [Int32.lt_iff_toInt_lt]; omega
theorem own_cpl {us : List Value} {n : Nat} (d : Value) : (List.replicate n d).take (0 : Int32).toNatClampNeg ++ us ++ (List.replicate n d).drop ((0 : Int32).toNatClampNeg + n) = us := by
  rw [show (0 : Int32).toNatClampNeg = 0 from rfl]; simp
theorem dc33_9 : decode jdk_29_method_69_code 9 = .ok (.iload_n 1, 1) := by decide +kernel
def own_mn (a_ : Int32) (b_ : Int32) : Int32 := (if b_ < a_ then b_ else a_)
def Q_mn (Z : State) (a_ : Int32) (b_ : Int32) (h0 : Heap) (n0 : Nat) (v : Option Value) (h : Heap) (L : List Loc) : Prop := v = some (.int (own_mn a_ b_)) ∧ Fr n0 L ∧ h = h0
set_option maxRecDepth 65536 in
set_option maxHeartbeats 40000000 in
theorem rm_mn (l : Launch) (Z : State) (a0 : Array Value) (hw : ∀ d ∈ tables_1, d.before a0 Z = true) (ws : List Jvm.Cond) (a_ : Int32) (b_ : Int32) (h0 : Heap) (n0 : Nat) (Z0 : n0 ≤ h0.size) :
    MetFree l (⟨"java/lang/Math", "min", "(II)I"⟩ : MethodName) (head1 (Jvm.Cond.code (⟨"java/lang/Math", "min", "(II)I"⟩ : MethodName) jdk_29_method_69_code 2 (some .int) :: ws) ({ frames := 0, cells := 0, slots := 0, locals := 0 } : Room)) (fun aA U => aA = #[(.int a_), (.int b_)] ∧ Z.Warmed39 U.vm ∧ U.heap = h0) (fun _ _ _ _ _ => True) (fun _ U o U' => ∃ v L, o = .returned v ∧ Q_mn Z a_ b_ h0 n0 v U'.heap L ∧ FrameEnd U o U' L ({ frames := 0, cells := 0, slots := 0, locals := 0 } : Room).cells ({ frames := 0, cells := 0, slots := 0, locals := 0 } : Room).slots) := by
  refine MetFree.of_bodySF (Jvm.Free.JP.mathPlain rfl (by decide +kernel)) hisR ?_
  intro p e s m args below meth c s₁ Bd hml0 hP hK
  obtain ⟨rfl, hZ, hh⟩ := hP
  have hx := Bd.exec
  have hby := Bd.bytes
  have hlk : meth.locks = false := BodyLoose.notSynchronized Bd
  have hml : c.maxLocals = 2 := hml0
  have hown : s.vm.findClass "java/lang/Math" = some m.cls := findClass_of_methodNamed Bd.named
  have hnm := (name_of_methodNamed Bd.named Bd.method).1
  have X0 : Stand p l e ({ frames := 0, cells := 0, slots := 0, locals := 0 } : Room) s m #[(.int a_), (.int b_)] below meth c s₁ [] 0 0 := Stand.of_body Bd
  have e0 : s₁.heap = h0 := by rw [← hh, Bd.state]; rfl
  have N0 := Fr.nil n0
  show oG p e below (own_K s (Q_mn Z a_ b_ h0 n0) ({ frames := 0, cells := 0, slots := 0, locals := 0 } : Room).cells ({ frames := 0, cells := 0, slots := 0, locals := 0 } : Room).slots) (s₁.setTop (entryFrame m #[(.int a_), (.int b_)] 2))
  rw [(by first | (simp [entryFrame, mkF, argsToLocals, Value.category]; done) | rfl : entryFrame m #[(.int a_), (.int b_)] 2 = mkF m 0 #[sI a_, sI b_] [])]
  show oG p e below _ (s₁.setTop (mkF m 0 #[sI a_, sI b_] []))
  refine og (fun _ hr => XS.iloadN X0.here hx rfl (hb hby dc33_0) rfl (XS.iloadN X0.here hx rfl (hb hby dc33_1) rfl hr)) ?_
  show oG p e below _ (s₁.setTop (mkF m 2 #[sI a_, sI b_] [(.int b_), (.int a_)]))
  rcases Classical.em (b_ < a_) with c1 | c1
  · skip
    refine og (fun _ hr => XS.icmpYes X0.here hx rfl (pc0 := 2) (pc' := 9) rfl (hb hby dc33_2) rfl (tlt c1).2.2.1 (by decide) (by decide) hr) ?_
    show oG p e below _ (s₁.setTop (mkF m 9 #[sI a_, sI b_] []))
    refine og (fun _ hr => XS.iloadN X0.here hx rfl (hb hby dc33_9) rfl hr) ?_
    show oG p e below _ (s₁.setTop (mkF m 10 #[sI a_, sI b_] [(.int b_)]))
    exact own_retI X0 hx hlk Bd.returns (hb hby dc33_10) (by decide) (by decide) ⟨(congrArg (fun q => some (Value.int q)) (show b_ = own_mn a_ b_ from Eq.symm (by unfold own_mn; rw [if_pos c1]))), N0, e0⟩
  refine og (fun _ hr => XS.icmpNo X0.here hx rfl (hb hby dc33_2) rfl (flt c1).2.2.1 hr) ?_
  show oG p e below _ (s₁.setTop (mkF m 5 #[sI a_, sI b_] []))
  refine og (fun _ hr => XS.iloadN X0.here hx rfl (hb hby dc33_5) rfl (XS.goto X0.here hx rfl (pc0 := 6) (pc' := 10) rfl (hb hby dc33_6) (by decide) (by decide) hr)) ?_
  show oG p e below _ (s₁.setTop (mkF m 10 #[sI a_, sI b_] [(.int a_)]))
  exact own_retI X0 hx hlk Bd.returns (hb hby dc33_10) (by decide) (by decide) ⟨(congrArg (fun q => some (Value.int q)) (show a_ = own_mn a_ b_ from Eq.symm (by unfold own_mn; rw [if_neg c1]))), N0, e0⟩
theorem own_mnr {a b : Int32} (h : ¬ a < b) : own_mn a b = b := by
  unfold own_mn
  by_cases q : b < a
  · rw [if_pos q]
  · rw [if_neg q]; apply Int32.toInt_inj.mp; simp only [Int32.lt_iff_toInt_lt] at h q; omega
theorem dc31_0 : decode jdk_65_method_133_code 0 = .ok (.iload_n 1, 1) := by decide +kernel
theorem dc31_1 : decode jdk_65_method_133_code 1 = .ok (.iload_n 2, 1) := by decide +kernel
theorem dc31_2 : decode jdk_65_method_133_code 2 = .ok (.invokestatic 343, 3) := by decide +kernel
theorem dc32_0 : decode jdk_65_method_131_code 0 = .ok (.iload_n 1, 1) := by decide +kernel
theorem dc32_1 : decode jdk_65_method_131_code 1 = .ok (.iload_n 0, 1) := by decide +kernel
theorem dc32_2 : decode jdk_65_method_131_code 2 = .ok (.if_icmp .ge 35, 3) := by decide +kernel
theorem dc32_37 : decode jdk_65_method_131_code 37 = .ok (.return_, 1) := by decide +kernel
def Q_checkLength_7 (Z : State) (h0 : Heap) (n0 : Nat) (v : Option Value) (h : Heap) (L : List Loc) : Prop := v = none ∧ Fr n0 L ∧ h = h0
set_option maxRecDepth 65536 in
set_option maxHeartbeats 40000000 in
theorem rm_checkLength_7 (l : Launch) (Z : State) (a0 : Array Value) (hw : ∀ d ∈ tables_1, d.before a0 Z = true) (ws : List Jvm.Cond) (y0 : Int32) (y1 : Int32) (h0 : Heap) (n0 : Nat) (Z0 : n0 ≤ h0.size) (hb0 : ¬ (y1 < y0)) :
    MetFree l (⟨"java/util/Arrays", "checkLength", "(II)V"⟩ : MethodName) (head1 (Jvm.Cond.code (⟨"java/util/Arrays", "checkLength", "(II)V"⟩ : MethodName) jdk_65_method_131_code 2 none :: ws) ({ frames := 0, cells := 0, slots := 0, locals := 0 } : Room)) (fun aA U => aA = #[(.int y0), (.int y1)] ∧ Z.Warmed39 U.vm ∧ U.heap = h0) (fun _ _ _ _ _ => True) (fun _ U o U' => ∃ v L, o = .returned v ∧ Q_checkLength_7 Z h0 n0 v U'.heap L ∧ FrameEnd U o U' L ({ frames := 0, cells := 0, slots := 0, locals := 0 } : Room).cells ({ frames := 0, cells := 0, slots := 0, locals := 0 } : Room).slots) := by
  refine MetFree.of_bodySF (plainFor_of_name own_pn_java_util_Arrays) hisR ?_
  intro p e s m args below meth c s₁ Bd hml0 hP hK
  obtain ⟨rfl, hZ, hh⟩ := hP
  have hx := Bd.exec
  have hby := Bd.bytes
  have hlk : meth.locks = false := BodyLoose.notSynchronized Bd
  have hml : c.maxLocals = 2 := hml0
  have hown : s.vm.findClass "java/util/Arrays" = some m.cls := findClass_of_methodNamed Bd.named
  have hnm := (name_of_methodNamed Bd.named Bd.method).1
  have X0 : Stand p l e ({ frames := 0, cells := 0, slots := 0, locals := 0 } : Room) s m #[(.int y0), (.int y1)] below meth c s₁ [] 0 0 := Stand.of_body Bd
  have e0 : s₁.heap = h0 := by rw [← hh, Bd.state]; rfl
  have N0 := Fr.nil n0
  show oG p e below (own_K s (Q_checkLength_7 Z h0 n0) ({ frames := 0, cells := 0, slots := 0, locals := 0 } : Room).cells ({ frames := 0, cells := 0, slots := 0, locals := 0 } : Room).slots) (s₁.setTop (entryFrame m #[(.int y0), (.int y1)] 2))
  rw [(by first | (simp [entryFrame, mkF, argsToLocals, Value.category]; done) | rfl : entryFrame m #[(.int y0), (.int y1)] 2 = mkF m 0 #[sI y0, sI y1] [])]
  show oG p e below _ (s₁.setTop (mkF m 0 #[sI y0, sI y1] []))
  refine og (fun _ hr => XS.iloadN X0.here hx rfl (hb hby dc32_0) rfl (XS.iloadN X0.here hx rfl (hb hby dc32_1) rfl hr)) ?_
  show oG p e below _ (s₁.setTop (mkF m 2 #[sI y0, sI y1] [(.int y0), (.int y1)]))
  refine og (fun _ hr => XS.icmpYes X0.here hx rfl (pc0 := 2) (pc' := 37) rfl (hb hby dc32_2) rfl (flt hb0).2.1 (by decide) (by decide) hr) ?_
  show oG p e below _ (s₁.setTop (mkF m 37 #[sI y0, sI y1] []))
  exact own_ret0 X0 hx hlk Bd.returns (hb hby dc32_37) (by decide) (by decide) ⟨rfl, N0, e0⟩
theorem own_pd17 : parseMethodDescriptor "(II)V" = some ⟨[.int, .int], none⟩ := by decide +kernel
theorem dc31_5 : decode jdk_65_method_133_code 5 = .ok (.iload_n 2, 1) := by decide +kernel
theorem dc31_6 : decode jdk_65_method_133_code 6 = .ok (.iload_n 1, 1) := by decide +kernel
theorem dc31_7 : decode jdk_65_method_133_code 7 = .ok (.isub, 1) := by decide +kernel
theorem dc31_8 : decode jdk_65_method_133_code 8 = .ok (.istore_n 3, 1) := by decide +kernel
theorem dc31_9 : decode jdk_65_method_133_code 9 = .ok (.iload_n 3, 1) := by decide +kernel
theorem dc31_10 : decode jdk_65_method_133_code 10 = .ok (.newarray .byte, 2) := by decide +kernel
theorem dc31_12 : decode jdk_65_method_133_code 12 = .ok (.astore 4, 2) := by decide +kernel
theorem dc31_14 : decode jdk_65_method_133_code 14 = .ok (.aload_n 0, 1) := by decide +kernel
theorem dc31_15 : decode jdk_65_method_133_code 15 = .ok (.iload_n 1, 1) := by decide +kernel
theorem dc31_16 : decode jdk_65_method_133_code 16 = .ok (.aload 4, 2) := by decide +kernel
theorem dc31_18 : decode jdk_65_method_133_code 18 = .ok (.iconst 0, 1) := by decide +kernel
theorem dc31_19 : decode jdk_65_method_133_code 19 = .ok (.aload_n 0, 1) := by decide +kernel
theorem dc31_20 : decode jdk_65_method_133_code 20 = .ok (.arraylength, 1) := by decide +kernel
theorem dc31_21 : decode jdk_65_method_133_code 21 = .ok (.iload_n 1, 1) := by decide +kernel
theorem dc31_22 : decode jdk_65_method_133_code 22 = .ok (.isub, 1) := by decide +kernel
theorem dc31_23 : decode jdk_65_method_133_code 23 = .ok (.iload_n 3, 1) := by decide +kernel
theorem dc31_24 : decode jdk_65_method_133_code 24 = .ok (.invokestatic 304, 3) := by decide +kernel
theorem dc31_27 : decode jdk_65_method_133_code 27 = .ok (.invokestatic 150, 3) := by decide +kernel
theorem dc31_30 : decode jdk_65_method_133_code 30 = .ok (.aload 4, 2) := by decide +kernel
theorem dc31_32 : decode jdk_65_method_133_code 32 = .ok (.areturn, 1) := by decide +kernel
def Q_crb (Z : State) (va_ : List Value) (f_ : Int32) (g_ : Int32) (fN_ : Nat) (gN_ : Nat) (h0 : Heap) (n0 : Nat) (v : Option Value) (h : Heap) (L : List Loc) : Prop := (∃ (a : Addr) (k : ClassId), v = some (.ref a) ∧ Fr n0 L ∧ Keep h0 h [] ∧ n0 ≤ a ∧ h0.size ≤ a ∧ Exa Z h a "[B" ∧ Arv Z h a k .byte (g_ - f_) (own_subv va_ fN_ (gN_ - fN_)) (.int 0))
set_option maxRecDepth 65536 in
set_option maxHeartbeats 40000000 in
theorem rm_crb (l : Launch) (Z : State) (a0 : Array Value) (hw : ∀ d ∈ tables_1, d.before a0 Z = true) (ws : List Jvm.Cond) (ar_ : Addr) (ka_ : ClassId) (cap_ : Int32) (va_ : List Value) (f_ : Int32) (g_ : Int32) (fN_ : Nat) (gN_ : Nat) (mN_ : Nat) (h0 : Heap) (n0 : Nat) (Z0 : n0 ≤ h0.size) (Ka_ : Arv Z h0 ar_ ka_ .byte cap_ va_ (.int 0)) (hf_ : Int32.ofNat fN_ = f_) (hg_ : Int32.ofNat gN_ = g_) (hmm_ : Int32.ofNat mN_ = cap_) (hfg_ : fN_ ≤ gN_) (hgn_ : gN_ ≤ mN_) (hm40_ : mN_ ≤ 40) :
    MetFree l (⟨"java/util/Arrays", "copyOfRangeByte", "([BII)[B"⟩ : MethodName) (head1 (Jvm.Cond.code (⟨"java/util/Arrays", "copyOfRangeByte", "([BII)[B"⟩ : MethodName) jdk_65_method_133_code 5 (some (.array .byte)) :: ws) ({ frames := 1, cells := 1, slots := 40, locals := 40 } : Room)) (fun aA U => aA = #[(.ref ar_), (.int f_), (.int g_)] ∧ Z.Warmed39 U.vm ∧ U.heap = h0) (fun _ _ _ _ _ => True) (fun _ U o U' => ∃ v L, o = .returned v ∧ Q_crb Z va_ f_ g_ fN_ gN_ h0 n0 v U'.heap L ∧ FrameEnd U o U' L ({ frames := 1, cells := 1, slots := 40, locals := 40 } : Room).cells ({ frames := 1, cells := 1, slots := 40, locals := 40 } : Room).slots) := by
  refine MetFree.of_bodySF (plainFor_of_name own_pn_java_util_Arrays) hisR ?_
  intro p e s m args below meth c s₁ Bd hml0 hP hK
  obtain ⟨rfl, hZ, hh⟩ := hP
  have hx := Bd.exec
  have hby := Bd.bytes
  have hlk : meth.locks = false := BodyLoose.notSynchronized Bd
  have hml : c.maxLocals = 5 := hml0
  have hown : s.vm.findClass "java/util/Arrays" = some m.cls := findClass_of_methodNamed Bd.named
  have hnm := (name_of_methodNamed Bd.named Bd.method).1
  have X0 : Stand p l e ({ frames := 1, cells := 1, slots := 40, locals := 40 } : Room) s m #[(.ref ar_), (.int f_), (.int g_)] below meth c s₁ [] 0 0 := Stand.of_body Bd
  have e0 : s₁.heap = h0 := by rw [← hh, Bd.state]; rfl
  have N0 := Fr.nil n0
  have hq_ := own_cpb hf_ hg_ hmm_ hfg_ hgn_ (by omega)
  have hgf_ : ¬ (g_ < f_) := hq_.2.1
  have hgz_ : ¬ ((g_ - f_) < (0 : Int32)) := hq_.2.2.1
  have K0 : Keep h0 h0 [] := Keep.refl _ _
  show oG p e below (own_K s (Q_crb Z va_ f_ g_ fN_ gN_ h0 n0) ({ frames := 1, cells := 1, slots := 40, locals := 40 } : Room).cells ({ frames := 1, cells := 1, slots := 40, locals := 40 } : Room).slots) (s₁.setTop (entryFrame m #[(.ref ar_), (.int f_), (.int g_)] 5))
  rw [(by first | (simp [entryFrame, mkF, argsToLocals, Value.category]; done) | rfl : entryFrame m #[(.ref ar_), (.int f_), (.int g_)] 5 = mkF m 0 #[sR ar_, sI f_, sI g_, sU, sU] [])]
  show oG p e below _ (s₁.setTop (mkF m 0 #[sR ar_, sI f_, sI g_, sU, sU] []))
  refine og (fun _ hr => XS.iloadN X0.here hx rfl (hb hby dc31_0) rfl (XS.iloadN X0.here hx rfl (hb hby dc31_1) rfl hr)) ?_
  show oG p e below _ (s₁.setTop (mkF m 2 #[sR ar_, sI f_, sI g_, sU, sU] [(.int g_), (.int f_)]))
  refine own_cs X0 hx hZ hown (hw _ (own_m 173 rfl)) (hw _ (own_m 174 rfl)) (hw _ (own_m 168 rfl)) (hw _ (own_m 175 rfl)) (by decide) (rm := { frames := 0, cells := 0, slots := 0, locals := 0 }) (rm_checkLength_7 l Z a0 hw [] f_ g_ h0 n0 Z0 hgf_) (by decide) (W := 0) (by decide) (by decide) (by decide) e0 (by rw [hml]; rfl) (argsL := [(.int f_), (.int g_)]) (lenOf own_pd17 rfl) (rest := []) rfl rfl (Nat.le_of_eq rfl) (hb hby dc31_2) ?_
  intro _ T1 L1 X1 hQ1
  obtain ⟨rfl, N1q, e1⟩ := hQ1
  have N1 := Fr.app N0 N1q
  show oG p e below _ (T1.setTop (mkF m 5 #[sR ar_, sI f_, sI g_, sU, sU] []))
  refine og (fun _ hr => XS.iloadN X1.here hx rfl (hb hby dc31_5) rfl (XS.iloadN X1.here hx rfl (hb hby dc31_6) rfl (XS.isub X1.here hx rfl (hb hby dc31_7) rfl (XS.istoreN X1.here hx rfl (hb hby dc31_8) rfl (l' := #[sR ar_, sI f_, sI g_, sI (g_ - f_), sU]) rfl (XS.iloadN X1.here hx rfl (hb hby dc31_9) rfl hr))))) ?_
  show oG p e below _ (T1.setTop (mkF m 10 #[sR ar_, sI f_, sI g_, sI (g_ - f_), sU] [(.int (g_ - f_))]))
  obtain ⟨T2, h2, k2, X2, e2, E2, A2, EA2, st2⟩ := newPE X1 hx hZ (hw _ (own_m 19 rfl)) e1 (g := (mkF m 10 #[sR ar_, sI f_, sI g_, sI (g_ - f_), sU] [(.int (g_ - f_))])) rfl (hb hby dc31_10) rfl hgz_ (cap := 40) (by rw [hq_.2.2.2.1]; omega) (by decide) (by decide) (by decide) (ad := "[B") (by decide)
  obtain ⟨b2, g2⟩ : ∃ z, z = h0.size := ⟨_, rfl⟩
  rw [← g2] at A2 EA2 st2
  have ge3 : n0 ≤ b2 := Nat.le_trans Z0 (Nat.le_of_eq g2.symm)
  have sz4 : h0.size ≤ b2 := Nat.le_trans K0.1 (Nat.le_of_eq g2.symm)
  refine og st2 ?_
  have f5 : Arv Z h2 b2 k2 .byte (g_ - f_) (List.replicate ((g_ - f_)).toNatClampNeg (.int 0)) (.int 0) := (Arv.new A2 hgz_).pad (pad_rep [] (.int 0) _)
  show oG p e below _ (T2.setTop (mkF m 12 #[sR ar_, sI f_, sI g_, sI (g_ - f_), sU] [(.ref b2)]))
  have f6 := (Ka_.ext E2)
  refine og (fun _ hr => XS.astore X2.here hx rfl (hb hby dc31_12) rfl rfl (l' := #[sR ar_, sI f_, sI g_, sI (g_ - f_), sR b2]) rfl (XS.aloadN X2.here hx rfl (hb hby dc31_14) rfl rfl (XS.iloadN X2.here hx rfl (hb hby dc31_15) rfl (XS.aload X2.here hx rfl (hb hby dc31_16) rfl rfl (XS.iconst X2.here hx rfl (hb hby dc31_18) (XS.aloadN X2.here hx rfl (hb hby dc31_19) rfl rfl (own_alen X2 hx hZ e2 f6 rfl rfl (hb hby dc31_20) (XS.iloadN X2.here hx rfl (hb hby dc31_21) rfl (XS.isub X2.here hx rfl (hb hby dc31_22) rfl (XS.iloadN X2.here hx rfl (hb hby dc31_23) rfl hr)))))))))) ?_
  show oG p e below _ (T2.setTop (mkF m 24 #[sR ar_, sI f_, sI g_, sI (g_ - f_), sR b2] [(.int (g_ - f_)), (.int (cap_ - f_)), (.int 0), (.ref b2), (.int f_), (.ref ar_)]))
  have Z8 := (Nat.le_trans Z0 E2.1)
  refine own_cs X2 hx hZ hown (hw _ (own_m 176 rfl)) (hw _ (own_m 177 rfl)) (hw _ (own_m 178 rfl)) (hw _ (own_m 179 rfl)) (by decide) (rm := { frames := 0, cells := 0, slots := 0, locals := 0 }) (rm_mn l Z a0 hw [] (cap_ - f_) (g_ - f_) h2 n0 Z8 ) (by decide) (W := 4) (by decide) (by decide) (by decide) e2 (by rw [hml]; rfl) (argsL := [(.int (cap_ - f_)), (.int (g_ - f_))]) (lenOf own_pd8 rfl) (rest := [(.int 0), (.ref b2), (.int f_), (.ref ar_)]) rfl rfl (Nat.le_of_eq rfl) (hb hby dc31_24) ?_
  intro _ T7 L7 X7 hQ7
  obtain ⟨rfl, N7q, e7⟩ := hQ7
  have N7 := Fr.app N1 N7q
  show oG p e below _ (T7.setTop (mkF m 27 #[sR ar_, sI f_, sI g_, sI (g_ - f_), sR b2] [(.int (own_mn (cap_ - f_) (g_ - f_))), (.int 0), (.ref b2), (.int f_), (.ref ar_)]))
  have em9 : (own_mn (cap_ - f_) (g_ - f_)) = (g_ - f_) := own_mnr hq_.2.2.2.2.2.2.2
  rw [em9]
  show oG p e below _ (T7.setTop (mkF m 27 #[sR ar_, sI f_, sI g_, sI (g_ - f_), sR b2] [(.int (g_ - f_)), (.int 0), (.ref b2), (.int f_), (.ref ar_)]))
  obtain ⟨T10, h10, L10, X10, e10, N10, K10, A10, st10⟩ := cpA X7 hx hZ hown (hw _ (own_m 180 rfl)) (hw _ (own_m 113 rfl)) (hw _ (own_m 111 rfl)) (hw _ (own_m 112 rfl)) e7 f6 f5 (us := own_subv va_ fN_ (gN_ - fN_)) (Or.inl ⟨rfl, rfl⟩) hq_.1 (by decide) hq_.2.2.1 (by rw [hq_.2.2.2.2.2.1, hq_.2.2.2.1, hq_.2.2.2.2.2.2.1]; omega) (Nat.le_of_eq (Nat.zero_add _)) (by unfold own_subv; rw [hq_.2.2.2.2.2.1, hq_.2.2.2.1]) (by rw [List.length_replicate]; exact Nat.le_of_eq (Nat.zero_add _)) N7 ge3 (g := (mkF m 27 #[sR ar_, sI f_, sI g_, sI (g_ - f_), sR b2] [(.int (g_ - f_)), (.int 0), (.ref b2), (.int f_), (.ref ar_)])) rfl (by rw [hml]; rfl) rfl (hb hby dc31_27) (by decide) (W := 0) (by show 2 * 0 + _ ≤ _; exact Nat.le_of_eq rfl) (by decide)
  refine og st10 ?_
  have f11 : Arv Z h10 b2 k2 .byte (g_ - f_) (own_subv va_ fN_ (gN_ - fN_)) (.int 0) := own_cpl (us := (own_subv va_ fN_ (gN_ - fN_))) (n := ((g_ - f_)).toNatClampNeg) (.int 0) ▸ A10
  show oG p e below _ (T10.setTop (mkF m 30 #[sR ar_, sI f_, sI g_, sI (g_ - f_), sR b2] []))
  refine og (fun _ hr => XS.aload X10.here hx rfl (hb hby dc31_30) rfl rfl hr) ?_
  show oG p e below _ (T10.setTop (mkF m 32 #[sR ar_, sI f_, sI g_, sI (g_ - f_), sR b2] [(.ref b2)]))
  have f12 := (EA2.keep K10)
  have K13 := ((K0.ext E2).trans K10 (allS (Or.inr sz4) all0))
  exact own_retR X10 hx hlk Bd.returns rfl rfl (hb hby dc31_32) (by decide) (by decide) (by rw [e10]; exact ⟨b2, k2, rfl, N10, K13, ge3, sz4, f12, f11⟩)
theorem dc30_0 : decode jdk_65_method_132_code 0 = .ok (.iload_n 1, 1) := by decide +kernel
theorem dc30_1 : decode jdk_65_method_132_code 1 = .ok (.ifCond .ne 9, 3) := by decide +kernel
theorem dc30_4 : decode jdk_65_method_132_code 4 = .ok (.iload_n 2, 1) := by decide +kernel
theorem dc30_5 : decode jdk_65_method_132_code 5 = .ok (.aload_n 0, 1) := by decide +kernel
theorem dc30_6 : decode jdk_65_method_132_code 6 = .ok (.arraylength, 1) := by decide +kernel
theorem dc30_7 : decode jdk_65_method_132_code 7 = .ok (.if_icmp .eq 10, 3) := by decide +kernel
theorem dc30_17 : decode jdk_65_method_132_code 17 = .ok (.aload_n 0, 1) := by decide +kernel
theorem dc30_18 : decode jdk_65_method_132_code 18 = .ok (.invokevirtual 310, 3) := by decide +kernel
theorem dc30_21 : decode jdk_65_method_132_code 21 = .ok (.checkcast 311, 3) := by decide +kernel
theorem dc30_24 : decode jdk_65_method_132_code 24 = .ok (.areturn, 1) := by decide +kernel
theorem dc30_10 : decode jdk_65_method_132_code 10 = .ok (.aload_n 0, 1) := by decide +kernel
theorem dc30_11 : decode jdk_65_method_132_code 11 = .ok (.iload_n 1, 1) := by decide +kernel
theorem dc30_12 : decode jdk_65_method_132_code 12 = .ok (.iload_n 2, 1) := by decide +kernel
theorem dc30_13 : decode jdk_65_method_132_code 13 = .ok (.invokestatic 339, 3) := by decide +kernel
theorem own_pd18 : parseMethodDescriptor "([BII)[B" = some ⟨[(.array .byte), .int, .int], some (.array .byte)⟩ := by decide +kernel
theorem dc30_16 : decode jdk_65_method_132_code 16 = .ok (.areturn, 1) := by decide +kernel
def Q_cr16x (Z : State) (cn_ : Int32) (cs_ : List Int32) (h0 : Heap) (n0 : Nat) (v : Option Value) (h : Heap) (L : List Loc) : Prop := (∃ (a : Addr) (k : ClassId), v = some (.ref a) ∧ Fr n0 L ∧ Keep h0 h [] ∧ n0 ≤ a ∧ h0.size ≤ a ∧ Exa Z h a "[B" ∧ Arv Z h a k .byte cn_ (own_lb cs_) (.int 0))
set_option maxRecDepth 65536 in
set_option maxHeartbeats 40000000 in
theorem rm_cr16x (l : Launch) (Z : State) (a0 : Array Value) (hw : ∀ d ∈ tables_1, d.before a0 Z = true) (ws : List Jvm.Cond) (cn_ : Int32) (cs_ : List Int32) (ar_ : Addr) (ka_ : ClassId) (va_ : List Value) (h0 : Heap) (n0 : Nat) (Z0 : n0 ≤ h0.size) (Ka_ : Arv Z h0 ar_ ka_ .byte (16 : Int32) va_ (.int 0)) (Ea_ : Exa Z h0 ar_ "[B") (hcn_ : Int32.ofNat cs_.length = cn_) (hhs_ : own_hs va_ cs_) (hvl_ : va_.length = 16) (hfit_ : cs_.length ≤ 16) :
    MetFree l (⟨"java/util/Arrays", "copyOfRange", "([BII)[B"⟩ : MethodName) (head1 (Jvm.Cond.code (⟨"java/util/Arrays", "copyOfRange", "([BII)[B"⟩ : MethodName) jdk_65_method_132_code 3 (some (.array .byte)) :: ws) ({ frames := 2, cells := 1, slots := 40, locals := 56 } : Room)) (fun aA U => aA = #[(.ref ar_), (.int 0), (.int cn_)] ∧ Z.Warmed39 U.vm ∧ U.heap = h0) (fun _ _ _ _ _ => True) (fun _ U o U' => ∃ v L, o = .returned v ∧ Q_cr16x Z cn_ cs_ h0 n0 v U'.heap L ∧ FrameEnd U o U' L ({ frames := 2, cells := 1, slots := 40, locals := 56 } : Room).cells ({ frames := 2, cells := 1, slots := 40, locals := 56 } : Room).slots) := by
  refine MetFree.of_bodySF (plainFor_of_name own_pn_java_util_Arrays) hisR ?_
  intro p e s m args below meth c s₁ Bd hml0 hP hK
  obtain ⟨rfl, hZ, hh⟩ := hP
  have hx := Bd.exec
  have hby := Bd.bytes
  have hlk : meth.locks = false := BodyLoose.notSynchronized Bd
  have hml : c.maxLocals = 3 := hml0
  have hown : s.vm.findClass "java/util/Arrays" = some m.cls := findClass_of_methodNamed Bd.named
  have hnm := (name_of_methodNamed Bd.named Bd.method).1
  have X0 : Stand p l e ({ frames := 2, cells := 1, slots := 40, locals := 56 } : Room) s m #[(.ref ar_), (.int 0), (.int cn_)] below meth c s₁ [] 0 0 := Stand.of_body Bd
  have e0 : s₁.heap = h0 := by rw [← hh, Bd.state]; rfl
  have N0 := Fr.nil n0
  have K0 : Keep h0 h0 [] := Keep.refl _ _
  show oG p e below (own_K s (Q_cr16x Z cn_ cs_ h0 n0) ({ frames := 2, cells := 1, slots := 40, locals := 56 } : Room).cells ({ frames := 2, cells := 1, slots := 40, locals := 56 } : Room).slots) (s₁.setTop (entryFrame m #[(.ref ar_), (.int 0), (.int cn_)] 3))
  rw [(by first | (simp [entryFrame, mkF, argsToLocals, Value.category]; done) | rfl : entryFrame m #[(.ref ar_), (.int 0), (.int cn_)] 3 = mkF m 0 #[sR ar_, sI 0, sI cn_] [])]
  show oG p e below _ (s₁.setTop (mkF m 0 #[sR ar_, sI 0, sI cn_] []))
  refine og (fun _ hr => XS.iloadN X0.here hx rfl (hb hby dc30_0) rfl (XS.ifNo X0.here hx rfl (hb hby dc30_1) rfl ((if0 _ _).trans (teq (by decide)).2) (XS.iloadN X0.here hx rfl (hb hby dc30_4) rfl (XS.aloadN X0.here hx rfl (hb hby dc30_5) rfl rfl (own_alen X0 hx hZ e0 Ka_ rfl rfl (hb hby dc30_6) hr))))) ?_
  show oG p e below _ (s₁.setTop (mkF m 7 #[sR ar_, sI 0, sI cn_] [(.int 16), (.int cn_)]))
  rcases Classical.em (cn_ = (16 : Int32)) with c1 | c1
  · skip
    refine og (fun _ hr => XS.icmpYes X0.here hx rfl (pc0 := 7) (pc' := 17) rfl (hb hby dc30_7) rfl (teq c1).1 (by decide) (by decide) hr) ?_
    show oG p e below _ (s₁.setTop (mkF m 17 #[sR ar_, sI 0, sI cn_] []))
    refine og (fun _ hr => XS.aloadN X0.here hx rfl (hb hby dc30_17) rfl rfl hr) ?_
    show oG p e below _ (s₁.setTop (mkF m 18 #[sR ar_, sI 0, sI cn_] [(.ref ar_)]))
    obtain ⟨T2, h2, X2, e2, E2, A2, EA2, st2⟩ := cloneH X0 hx hZ hown (hw _ (own_m 249 rfl)) (hw _ (own_m 250 rfl)) (hw _ (own_m 254 rfl)) (hw _ (own_m 252 rfl)) (hw _ (own_m 253 rfl)) (hw _ (own_m 255 rfl)) e0 Ka_.arh Ea_ (g := (mkF m 18 #[sR ar_, sI 0, sI cn_] [(.ref ar_)])) rfl (by rw [hml]; rfl) rfl (hb hby dc30_18) (by decide) (W := 0) (cap := 16) (by show 2 * 0 + _ ≤ _; exact Nat.le_of_eq rfl) (by decide) (by decide) (by decide) (by decide)
    obtain ⟨b2, g2⟩ : ∃ z, z = h0.size := ⟨_, rfl⟩
    rw [← g2] at A2 EA2 st2
    have ge3 : n0 ≤ b2 := Nat.le_trans Z0 (Nat.le_of_eq g2.symm)
    have sz4 : h0.size ≤ b2 := Nat.le_trans K0.1 (Nat.le_of_eq g2.symm)
    refine og st2 ?_
    have f5 : Arv Z h2 b2 ka_ .byte (16 : Int32) va_ (.int 0) := A2
    show oG p e below _ (T2.setTop (mkF m 21 #[sR ar_, sI 0, sI cn_] [(.ref b2)]))
    obtain ⟨T6, X6, e6, st6⟩ := castY X2 hx hZ hown (hw _ (own_m 256 rfl)) e2 (Ins.self EA2) (g := (mkF m 21 #[sR ar_, sI 0, sI cn_] [(.ref b2)])) rfl rfl (hb hby dc30_21)
    refine og st6 ?_
    show oG p e below _ (T6.setTop (mkF m 24 #[sR ar_, sI 0, sI cn_] [(.ref b2)]))
    have f7 : Arv Z h2 b2 ka_ .byte cn_ (own_lb cs_) (.int 0) := by have q := f5; rw [own_hs_all hhs_ (by rw [hvl_]; have r := (own_tnat hcn_ (by omega)).1; rw [c1] at r; exact r), ← c1] at q; exact q
    have K8 := (K0.ext E2)
    exact own_retR X6 hx hlk Bd.returns rfl rfl (hb hby dc30_24) (by decide) (by decide) (by rw [e6]; exact ⟨b2, ka_, rfl, N0, K8, ge3, sz4, EA2, f7⟩)
  refine og (fun _ hr => XS.icmpNo X0.here hx rfl (hb hby dc30_7) rfl (feq c1).1 hr) ?_
  show oG p e below _ (s₁.setTop (mkF m 10 #[sR ar_, sI 0, sI cn_] []))
  refine og (fun _ hr => XS.aloadN X0.here hx rfl (hb hby dc30_10) rfl rfl (XS.iloadN X0.here hx rfl (hb hby dc30_11) rfl (XS.iloadN X0.here hx rfl (hb hby dc30_12) rfl hr))) ?_
  show oG p e below _ (s₁.setTop (mkF m 13 #[sR ar_, sI 0, sI cn_] [(.int cn_), (.int 0), (.ref ar_)]))
  refine own_cs X0 hx hZ hown (hw _ (own_m 170 rfl)) (hw _ (own_m 171 rfl)) (hw _ (own_m 168 rfl)) (hw _ (own_m 172 rfl)) (by decide) (rm := { frames := 1, cells := 1, slots := 40, locals := 40 }) (rm_crb l Z a0 hw [] ar_ ka_ (16 : Int32) va_ (0 : Int32) cn_ 0 cs_.length 16 h0 n0 Z0 Ka_ rfl hcn_ rfl (Nat.zero_le _) hfit_ (by decide)) (by decide) (W := 0) (by decide) (by decide) (by decide) e0 (by rw [hml]; rfl) (argsL := [(.ref ar_), (.int 0), (.int cn_)]) (lenOf own_pd18 rfl) (rest := []) rfl rfl (Nat.le_of_eq rfl) (hb hby dc30_13) ?_
  intro _ T9 L9 X9 hQ9
  obtain ⟨b9_0, kb9_0, rfl, N9q, K9, ge9_0, sz9_0, f9_0, f9_1⟩ := hQ9
  have N9 := Fr.app N0 N9q
  have sz10 : h0.size ≤ b9_0 := Nat.le_trans K0.1 sz9_0
  show oG p e below _ (T9.setTop (mkF m 16 #[sR ar_, sI 0, sI cn_] [(.ref b9_0)]))
  have f11 : Arv Z T9.heap b9_0 kb9_0 .byte cn_ (own_lb cs_) (.int 0) := by have q := f9_1; rw [Nat.sub_zero, own_hs_sub hhs_, show cn_ - (0 : Int32) = cn_ from by apply Int32.toInt_inj.mp; have d := c_isub cn_ 0; have r := rng32 cn_; have r2 := rng32 (cn_ - 0); simp only [Int32.reduceToInt] at d; omega] at q; exact q
  have K12 := (K0.trans K9 all0)
  exact own_retR X9 hx hlk Bd.returns rfl rfl (hb hby dc30_16) (by decide) (by decide) (by exact ⟨b9_0, kb9_0, rfl, N9, K12, ge9_0, sz10, f9_0, f11⟩)
theorem dc26_0 : decode jdk_42_method_150_code 0 = .ok (.aload_n 0, 1) := by decide +kernel
theorem dc26_1 : decode jdk_42_method_150_code 1 = .ok (.invokespecial 1, 3) := by decide +kernel
theorem dc26_4 : decode jdk_42_method_150_code 4 = .ok (.aload_n 1, 1) := by decide +kernel
theorem dc26_5 : decode jdk_42_method_150_code 5 = .ok (.invokevirtual 552, 3) := by decide +kernel
theorem dc27_0 : decode jdk_68_method_64_code 0 = .ok (.aload_n 0, 1) := by decide +kernel
theorem dc27_1 : decode jdk_68_method_64_code 1 = .ok (.getfield 15, 3) := by decide +kernel
theorem dc27_4 : decode jdk_68_method_64_code 4 = .ok (.areturn, 1) := by decide +kernel
def Q_getValue_8 (Z : State) (o1 : Addr) (h0 : Heap) (n0 : Nat) (v : Option Value) (h : Heap) (L : List Loc) : Prop := v = some (.ref o1) ∧ Fr n0 L ∧ h = h0
set_option maxRecDepth 65536 in
set_option maxHeartbeats 40000000 in
theorem rm_getValue_8 (l : Launch) (Z : State) (a0 : Array Value) (hw : ∀ d ∈ tables_1, d.before a0 Z = true) (ws : List Jvm.Cond) (o0 : Addr) (o1 : Addr) (h0 : Heap) (n0 : Nat) (Z0 : n0 ≤ h0.size) (P0 : Fld Z h0 o0 "java/lang/AbstractStringBuilder" "value" "[B" (.ref o1)) :
    MetFree l (⟨"java/lang/AbstractStringBuilder", "getValue", "()[B"⟩ : MethodName) (head1 (Jvm.Cond.code (⟨"java/lang/AbstractStringBuilder", "getValue", "()[B"⟩ : MethodName) jdk_68_method_64_code 1 (some (.array .byte)) :: ws) ({ frames := 0, cells := 0, slots := 0, locals := 0 } : Room)) (fun aA U => aA = #[(.ref o0)] ∧ Z.Warmed39 U.vm ∧ U.heap = h0) (fun _ _ _ _ _ => True) (fun _ U o U' => ∃ v L, o = .returned v ∧ Q_getValue_8 Z o1 h0 n0 v U'.heap L ∧ FrameEnd U o U' L ({ frames := 0, cells := 0, slots := 0, locals := 0 } : Room).cells ({ frames := 0, cells := 0, slots := 0, locals := 0 } : Room).slots) := by
  refine MetFree.of_bodySF (plainFor_of_name own_pn_java_lang_AbstractStringBuilder) hisR ?_
  intro p e s m args below meth c s₁ Bd hml0 hP hK
  obtain ⟨rfl, hZ, hh⟩ := hP
  have hx := Bd.exec
  have hby := Bd.bytes
  have hlk : meth.locks = false := BodyLoose.notSynchronized Bd
  have hml : c.maxLocals = 1 := hml0
  have hown : s.vm.findClass "java/lang/AbstractStringBuilder" = some m.cls := findClass_of_methodNamed Bd.named
  have hnm := (name_of_methodNamed Bd.named Bd.method).1
  have X0 : Stand p l e ({ frames := 0, cells := 0, slots := 0, locals := 0 } : Room) s m #[(.ref o0)] below meth c s₁ [] 0 0 := Stand.of_body Bd
  have e0 : s₁.heap = h0 := by rw [← hh, Bd.state]; rfl
  have N0 := Fr.nil n0
  show oG p e below (own_K s (Q_getValue_8 Z o1 h0 n0) ({ frames := 0, cells := 0, slots := 0, locals := 0 } : Room).cells ({ frames := 0, cells := 0, slots := 0, locals := 0 } : Room).slots) (s₁.setTop (entryFrame m #[(.ref o0)] 1))
  rw [(by first | (simp [entryFrame, mkF, argsToLocals, Value.category]; done) | rfl : entryFrame m #[(.ref o0)] 1 = mkF m 0 #[sR o0] [])]
  show oG p e below _ (s₁.setTop (mkF m 0 #[sR o0] []))
  refine og (fun _ hr => XS.aloadN X0.here hx rfl (hb hby dc27_0) rfl rfl hr) ?_
  show oG p e below _ (s₁.setTop (mkF m 1 #[sR o0] [(.ref o0)]))
  obtain ⟨T1, X1, e1, st1⟩ := getF X0 hx hZ hown (host := "") (Or.inl (hw _ (own_m 60 rfl))) Via.refl e0 P0 (g := (mkF m 1 #[sR o0] [(.ref o0)])) rfl rfl (hb hby dc27_1)
  refine og st1 ?_
  show oG p e below _ (T1.setTop (mkF m 4 #[sR o0] [(.ref o1)]))
  exact own_retR X1 hx hlk Bd.returns rfl rfl (hb hby dc27_4) (by decide) (by decide) ⟨rfl, N0, e1⟩
theorem own_pd19 : parseMethodDescriptor "()[B" = some ⟨[], some (.array .byte)⟩ := by decide +kernel
theorem dc26_8 : decode jdk_42_method_150_code 8 = .ok (.astore_n 3, 1) := by decide +kernel
theorem dc26_9 : decode jdk_42_method_150_code 9 = .ok (.aload_n 1, 1) := by decide +kernel
theorem dc26_10 : decode jdk_42_method_150_code 10 = .ok (.invokevirtual 549, 3) := by decide +kernel
theorem dc28_0 : decode jdk_67_method_93_code 0 = .ok (.aload_n 0, 1) := by decide +kernel
theorem dc28_1 : decode jdk_67_method_93_code 1 = .ok (.invokespecial 343, 3) := by decide +kernel
theorem dc29_0 : decode jdk_68_method_6_code 0 = .ok (.aload_n 0, 1) := by decide +kernel
theorem dc29_1 : decode jdk_68_method_6_code 1 = .ok (.getfield 79, 3) := by decide +kernel
theorem dc29_4 : decode jdk_68_method_6_code 4 = .ok (.ireturn, 1) := by decide +kernel
def Q_length_9 (Z : State) (y0 : Int32) (h0 : Heap) (n0 : Nat) (v : Option Value) (h : Heap) (L : List Loc) : Prop := v = some (.int y0) ∧ Fr n0 L ∧ h = h0
set_option maxRecDepth 65536 in
set_option maxHeartbeats 40000000 in
theorem rm_length_9 (l : Launch) (Z : State) (a0 : Array Value) (hw : ∀ d ∈ tables_1, d.before a0 Z = true) (ws : List Jvm.Cond) (o0 : Addr) (y0 : Int32) (h0 : Heap) (n0 : Nat) (Z0 : n0 ≤ h0.size) (P0 : Fld Z h0 o0 "java/lang/AbstractStringBuilder" "count" "I" (.int y0)) :
    MetFree l (⟨"java/lang/AbstractStringBuilder", "length", "()I"⟩ : MethodName) (head1 (Jvm.Cond.code (⟨"java/lang/AbstractStringBuilder", "length", "()I"⟩ : MethodName) jdk_68_method_6_code 1 (some .int) :: ws) ({ frames := 0, cells := 0, slots := 0, locals := 0 } : Room)) (fun aA U => aA = #[(.ref o0)] ∧ Z.Warmed39 U.vm ∧ U.heap = h0) (fun _ _ _ _ _ => True) (fun _ U o U' => ∃ v L, o = .returned v ∧ Q_length_9 Z y0 h0 n0 v U'.heap L ∧ FrameEnd U o U' L ({ frames := 0, cells := 0, slots := 0, locals := 0 } : Room).cells ({ frames := 0, cells := 0, slots := 0, locals := 0 } : Room).slots) := by
  refine MetFree.of_bodySF (plainFor_of_name own_pn_java_lang_AbstractStringBuilder) hisR ?_
  intro p e s m args below meth c s₁ Bd hml0 hP hK
  obtain ⟨rfl, hZ, hh⟩ := hP
  have hx := Bd.exec
  have hby := Bd.bytes
  have hlk : meth.locks = false := BodyLoose.notSynchronized Bd
  have hml : c.maxLocals = 1 := hml0
  have hown : s.vm.findClass "java/lang/AbstractStringBuilder" = some m.cls := findClass_of_methodNamed Bd.named
  have hnm := (name_of_methodNamed Bd.named Bd.method).1
  have X0 : Stand p l e ({ frames := 0, cells := 0, slots := 0, locals := 0 } : Room) s m #[(.ref o0)] below meth c s₁ [] 0 0 := Stand.of_body Bd
  have e0 : s₁.heap = h0 := by rw [← hh, Bd.state]; rfl
  have N0 := Fr.nil n0
  show oG p e below (own_K s (Q_length_9 Z y0 h0 n0) ({ frames := 0, cells := 0, slots := 0, locals := 0 } : Room).cells ({ frames := 0, cells := 0, slots := 0, locals := 0 } : Room).slots) (s₁.setTop (entryFrame m #[(.ref o0)] 1))
  rw [(by first | (simp [entryFrame, mkF, argsToLocals, Value.category]; done) | rfl : entryFrame m #[(.ref o0)] 1 = mkF m 0 #[sR o0] [])]
  show oG p e below _ (s₁.setTop (mkF m 0 #[sR o0] []))
  refine og (fun _ hr => XS.aloadN X0.here hx rfl (hb hby dc29_0) rfl rfl hr) ?_
  show oG p e below _ (s₁.setTop (mkF m 1 #[sR o0] [(.ref o0)]))
  obtain ⟨T1, X1, e1, st1⟩ := getF X0 hx hZ hown (host := "") (Or.inl (hw _ (own_m 87 rfl))) Via.refl e0 P0 (g := (mkF m 1 #[sR o0] [(.ref o0)])) rfl rfl (hb hby dc29_1)
  refine og st1 ?_
  show oG p e below _ (T1.setTop (mkF m 4 #[sR o0] [(.int y0)]))
  exact own_retI X1 hx hlk Bd.returns (hb hby dc29_4) (by decide) (by decide) ⟨rfl, N0, e1⟩
theorem dc28_4 : decode jdk_67_method_93_code 4 = .ok (.ireturn, 1) := by decide +kernel
def Q_length_10 (Z : State) (y0 : Int32) (h0 : Heap) (n0 : Nat) (v : Option Value) (h : Heap) (L : List Loc) : Prop := v = some (.int y0) ∧ Fr n0 L ∧ h = h0
set_option maxRecDepth 65536 in
set_option maxHeartbeats 40000000 in
theorem rm_length_10 (l : Launch) (Z : State) (a0 : Array Value) (hw : ∀ d ∈ tables_1, d.before a0 Z = true) (ws : List Jvm.Cond) (o0 : Addr) (y0 : Int32) (h0 : Heap) (n0 : Nat) (Z0 : n0 ≤ h0.size) (P0 : Fld Z h0 o0 "java/lang/AbstractStringBuilder" "count" "I" (.int y0)) (P1 : Exa Z h0 o0 "java/lang/StringBuilder") :
    MetFree l (⟨"java/lang/StringBuilder", "length", "()I"⟩ : MethodName) (head1 (Jvm.Cond.code (⟨"java/lang/StringBuilder", "length", "()I"⟩ : MethodName) jdk_67_method_93_code 1 (some .int) :: ws) ({ frames := 1, cells := 0, slots := 0, locals := 12 } : Room)) (fun aA U => aA = #[(.ref o0)] ∧ Z.Warmed39 U.vm ∧ U.heap = h0) (fun _ _ _ _ _ => True) (fun _ U o U' => ∃ v L, o = .returned v ∧ Q_length_10 Z y0 h0 n0 v U'.heap L ∧ FrameEnd U o U' L ({ frames := 1, cells := 0, slots := 0, locals := 12 } : Room).cells ({ frames := 1, cells := 0, slots := 0, locals := 12 } : Room).slots) := by
  refine MetFree.of_bodySF (plainFor_of_name own_pn_java_lang_StringBuilder) hisR ?_
  intro p e s m args below meth c s₁ Bd hml0 hP hK
  obtain ⟨rfl, hZ, hh⟩ := hP
  have hx := Bd.exec
  have hby := Bd.bytes
  have hlk : meth.locks = false := BodyLoose.notSynchronized Bd
  have hml : c.maxLocals = 1 := hml0
  have hown : s.vm.findClass "java/lang/StringBuilder" = some m.cls := findClass_of_methodNamed Bd.named
  have hnm := (name_of_methodNamed Bd.named Bd.method).1
  have X0 : Stand p l e ({ frames := 1, cells := 0, slots := 0, locals := 12 } : Room) s m #[(.ref o0)] below meth c s₁ [] 0 0 := Stand.of_body Bd
  have e0 : s₁.heap = h0 := by rw [← hh, Bd.state]; rfl
  have N0 := Fr.nil n0
  show oG p e below (own_K s (Q_length_10 Z y0 h0 n0) ({ frames := 1, cells := 0, slots := 0, locals := 12 } : Room).cells ({ frames := 1, cells := 0, slots := 0, locals := 12 } : Room).slots) (s₁.setTop (entryFrame m #[(.ref o0)] 1))
  rw [(by first | (simp [entryFrame, mkF, argsToLocals, Value.category]; done) | rfl : entryFrame m #[(.ref o0)] 1 = mkF m 0 #[sR o0] [])]
  show oG p e below _ (s₁.setTop (mkF m 0 #[sR o0] []))
  refine og (fun _ hr => XS.aloadN X0.here hx rfl (hb hby dc28_0) rfl rfl hr) ?_
  show oG p e below _ (s₁.setTop (mkF m 1 #[sR o0] [(.ref o0)]))
  refine own_su X0 hx hZ hown (hw _ (own_m 163 rfl)) (own_smm (hw _ (own_m 159 rfl)) (hw _ (own_m 92 rfl)) (hw _ (own_m 90 rfl)) rfl (by decide)) (hw _ (own_m 159 rfl)) (hw _ (own_m 74 rfl)) (hw _ (own_m 56 rfl)) (hw _ (own_m 164 rfl)) (by decide) (Ins.self P1) (rm := { frames := 0, cells := 0, slots := 0, locals := 0 }) (rm_length_9 l Z a0 hw [] o0 y0 h0 n0 Z0 P0) (by decide) (W := 0) (by decide) (by decide) (by decide) e0 (by rw [hml]; rfl) (argsL := []) (lenOf own_pd1 rfl) (rest := []) rfl rfl (Nat.le_of_eq rfl) (hb hby dc28_1) ?_
  intro _ T1 L1 X1 hQ1
  obtain ⟨rfl, N1q, e1⟩ := hQ1
  have N1 := Fr.app N0 N1q
  show oG p e below _ (T1.setTop (mkF m 4 #[sR o0] [(.int y0)]))
  exact own_retI X1 hx hlk Bd.returns (hb hby dc28_4) (by decide) (by decide) ⟨rfl, N1, e1⟩
theorem dc26_13 : decode jdk_42_method_150_code 13 = .ok (.istore 4, 2) := by decide +kernel
theorem dc26_15 : decode jdk_42_method_150_code 15 = .ok (.aload_n 1, 1) := by decide +kernel
theorem dc26_16 : decode jdk_42_method_150_code 16 = .ok (.invokevirtual 1047, 3) := by decide +kernel
theorem dc26_19 : decode jdk_42_method_150_code 19 = .ok (.ifCond .eq 22, 3) := by decide +kernel
theorem dc26_22 : decode jdk_42_method_150_code 22 = .ok (.aload_n 0, 1) := by decide +kernel
theorem dc26_23 : decode jdk_42_method_150_code 23 = .ok (.iconst 0, 1) := by decide +kernel
theorem dc26_24 : decode jdk_42_method_150_code 24 = .ok (.putfield 15, 3) := by decide +kernel
theorem dc26_27 : decode jdk_42_method_150_code 27 = .ok (.aload_n 0, 1) := by decide +kernel
theorem dc26_28 : decode jdk_42_method_150_code 28 = .ok (.aload_n 3, 1) := by decide +kernel
theorem dc26_29 : decode jdk_42_method_150_code 29 = .ok (.iconst 0, 1) := by decide +kernel
theorem dc26_30 : decode jdk_42_method_150_code 30 = .ok (.iload 4, 2) := by decide +kernel
theorem dc26_32 : decode jdk_42_method_150_code 32 = .ok (.invokestatic 54, 3) := by decide +kernel
theorem dc26_35 : decode jdk_42_method_150_code 35 = .ok (.putfield 9, 3) := by decide +kernel
theorem dc26_38 : decode jdk_42_method_150_code 38 = .ok (.goto 59, 3) := by decide +kernel
theorem dc26_97 : decode jdk_42_method_150_code 97 = .ok (.return_, 1) := by decide +kernel
def Q_is16x (Z : State) (o_ : Addr) (cn_ : Int32) (cs_ : List Int32) (h0 : Heap) (n0 : Nat) (v : Option Value) (h : Heap) (L : List Loc) : Prop := (∃ (b : Addr) (k : ClassId), v = none ∧ Fr n0 L ∧ Keep h0 h [o_] ∧ n0 ≤ b ∧ h0.size ≤ b ∧ Fld Z h o_ "java/lang/String" "coder" "B" (.int 0) ∧ Fld Z h o_ "java/lang/String" "value" "[B" (.ref b) ∧ Arv Z h b k .byte cn_ (own_lb cs_) (.int 0))
set_option maxRecDepth 65536 in
set_option maxHeartbeats 40000000 in
theorem rm_is16x (l : Launch) (Z : State) (a0 : Array Value) (hw : ∀ d ∈ tables_1, d.before a0 Z = true) (ws : List Jvm.Cond) (o_ : Addr) (sb_ : Addr) (cn_ : Int32) (cs_ : List Int32) (ar_ : Addr) (ka_ : ClassId) (va_ : List Value) (i_COMPACT_STRINGS : Int32) (h0 : Heap) (n0 : Nat) (Z0 : n0 ≤ h0.size) (Eo_ : Exa Z h0 o_ "java/lang/String") (Vo_ : Fld Z h0 o_ "java/lang/String" "value" "[B" .null) (Co_ : Fld Z h0 o_ "java/lang/String" "coder" "B" (.int 0)) (geo_ : n0 ≤ o_) (nbo_ : sb_ ≠ o_) (nao_ : ar_ ≠ o_) (Eb_ : Exa Z h0 sb_ "java/lang/StringBuilder") (Vb_ : Fld Z h0 sb_ "java/lang/AbstractStringBuilder" "value" "[B" (.ref ar_)) (Cb_ : Fld Z h0 sb_ "java/lang/AbstractStringBuilder" "coder" "B" (.int 0)) (Nb_ : Fld Z h0 sb_ "java/lang/AbstractStringBuilder" "count" "I" (.int cn_)) (Ka_ : Arv Z h0 ar_ ka_ .byte (16 : Int32) va_ (.int 0)) (Ea_ : Exa Z h0 ar_ "[B") (hcn_ : Int32.ofNat cs_.length = cn_) (hhs_ : own_hs va_ cs_) (hvl_ : va_.length = 16) (hfit_ : cs_.length ≤ 16) (S_COMPACT_STRINGS : Sta Z h0 "java/lang/String" "COMPACT_STRINGS" "Z" (.int i_COMPACT_STRINGS)) (hs_COMPACT_STRINGS : ¬ (i_COMPACT_STRINGS = (0 : Int32))) :
    MetFree l (⟨"java/lang/String", "<init>", "(Ljava/lang/AbstractStringBuilder;Ljava/lang/Void;)V"⟩ : MethodName) (head1 (Jvm.Cond.code (⟨"java/lang/String", "<init>", "(Ljava/lang/AbstractStringBuilder;Ljava/lang/Void;)V"⟩ : MethodName) jdk_42_method_150_code 5 none :: ws) ({ frames := 3, cells := 1, slots := 40, locals := 71 } : Room)) (fun aA U => aA = #[(.ref o_), (.ref sb_), .null] ∧ Z.Warmed39 U.vm ∧ U.heap = h0) (fun _ _ _ _ _ => True) (fun _ U o U' => ∃ v L, o = .returned v ∧ Q_is16x Z o_ cn_ cs_ h0 n0 v U'.heap L ∧ FrameEnd U o U' L ({ frames := 3, cells := 1, slots := 40, locals := 71 } : Room).cells ({ frames := 3, cells := 1, slots := 40, locals := 71 } : Room).slots) := by
  refine MetFree.of_bodySF (plainFor_of_name own_pn_java_lang_String) hisR ?_
  intro p e s m args below meth c s₁ Bd hml0 hP hK
  obtain ⟨rfl, hZ, hh⟩ := hP
  have hx := Bd.exec
  have hby := Bd.bytes
  have hlk : meth.locks = false := BodyLoose.notSynchronized Bd
  have hml : c.maxLocals = 5 := hml0
  have hown : s.vm.findClass "java/lang/String" = some m.cls := findClass_of_methodNamed Bd.named
  have hnm := (name_of_methodNamed Bd.named Bd.method).1
  have X0 : Stand p l e ({ frames := 3, cells := 1, slots := 40, locals := 71 } : Room) s m #[(.ref o_), (.ref sb_), .null] below meth c s₁ [] 0 0 := Stand.of_body Bd
  have e0 : s₁.heap = h0 := by rw [← hh, Bd.state]; rfl
  have N0 := Fr.nil n0
  have K0 : Keep h0 h0 [o_] := Keep.refl _ _
  show oG p e below (own_K s (Q_is16x Z o_ cn_ cs_ h0 n0) ({ frames := 3, cells := 1, slots := 40, locals := 71 } : Room).cells ({ frames := 3, cells := 1, slots := 40, locals := 71 } : Room).slots) (s₁.setTop (entryFrame m #[(.ref o_), (.ref sb_), .null] 5))
  rw [(by first | (simp [entryFrame, mkF, argsToLocals, Value.category]; done) | rfl : entryFrame m #[(.ref o_), (.ref sb_), .null] 5 = mkF m 0 #[sR o_, sR sb_, .val .null, sU, sU] [])]
  show oG p e below _ (s₁.setTop (mkF m 0 #[sR o_, sR sb_, .val .null, sU, sU] []))
  refine og (fun _ hr => XS.aloadN X0.here hx rfl (hb hby dc26_0) rfl rfl hr) ?_
  show oG p e below _ (s₁.setTop (mkF m 1 #[sR o_, sR sb_, .val .null, sU, sU] [(.ref o_)]))
  obtain ⟨T1, X1, e1, st1⟩ := initO X0 hx hZ hown (hw _ (own_m 11 rfl)) (hw _ (own_m 12 rfl)) (hw _ (own_m 13 rfl)) e0 (g := (mkF m 1 #[sR o_, sR sb_, .val .null, sU, sU] [(.ref o_)])) rfl (by rw [hml]; rfl) rfl (hb hby dc26_1) (by decide) (W := 0) (by show 2 * 0 + _ ≤ _; exact Nat.le_of_eq rfl) (by decide)
  refine og st1 ?_
  show oG p e below _ (T1.setTop (mkF m 4 #[sR o_, sR sb_, .val .null, sU, sU] []))
  refine og (fun _ hr => XS.aloadN X1.here hx rfl (hb hby dc26_4) rfl rfl hr) ?_
  show oG p e below _ (T1.setTop (mkF m 5 #[sR o_, sR sb_, .val .null, sU, sU] [(.ref sb_)]))
  refine own_cv X1 hx hZ hown (notFace_of_selects (args := #[]) (mvT hZ (hw _ (own_m 155 rfl)))) (hw _ (own_m 152 rfl)) (hw _ (own_m 153 rfl)) (hw _ (own_m 155 rfl)) (hw _ (own_m 154 rfl)) (hw _ (own_m 56 rfl)) (hw _ (own_m 156 rfl)) (by decide) Eb_ (rm := { frames := 0, cells := 0, slots := 0, locals := 0 }) (rm_getValue_8 l Z a0 hw [] sb_ ar_ h0 n0 Z0 Vb_) (by decide) (W := 0) (by decide) (by decide) (by decide) e1 (by rw [hml]; rfl) (argsL := []) (lenOf own_pd19 rfl) (rest := []) rfl rfl (Nat.le_of_eq rfl) (hb hby dc26_5) ?_
  intro _ T2 L2 X2 hQ2
  obtain ⟨rfl, N2q, e2⟩ := hQ2
  have N2 := Fr.app N0 N2q
  show oG p e below _ (T2.setTop (mkF m 8 #[sR o_, sR sb_, .val .null, sU, sU] [(.ref ar_)]))
  refine og (fun _ hr => XS.astoreN X2.here hx rfl (hb hby dc26_8) rfl rfl (l' := #[sR o_, sR sb_, .val .null, sR ar_, sU]) rfl (XS.aloadN X2.here hx rfl (hb hby dc26_9) rfl rfl hr)) ?_
  show oG p e below _ (T2.setTop (mkF m 10 #[sR o_, sR sb_, .val .null, sR ar_, sU] [(.ref sb_)]))
  refine own_cv X2 hx hZ hown (own_nf (y := (⟨"java/lang/AbstractStringBuilder", "length", "()I"⟩ : MethodName)) (args := #[]) (mvT hZ (hw _ (own_m 92 rfl))) (mvT hZ (hw _ (own_m 90 rfl))) rfl) (hw _ (own_m 157 rfl)) (hw _ (own_m 158 rfl)) (hw _ (own_m 160 rfl)) (hw _ (own_m 161 rfl)) (hw _ (own_m 48 rfl)) (hw _ (own_m 162 rfl)) (by decide) Eb_ (rm := { frames := 1, cells := 0, slots := 0, locals := 12 }) (rm_length_10 l Z a0 hw [] sb_ cn_ h0 n0 Z0 Nb_ Eb_) (by decide) (W := 0) (by decide) (by decide) (by decide) e2 (by rw [hml]; rfl) (argsL := []) (lenOf own_pd1 rfl) (rest := []) rfl rfl (Nat.le_of_eq rfl) (hb hby dc26_10) ?_
  intro _ T3 L3 X3 hQ3
  obtain ⟨rfl, N3q, e3⟩ := hQ3
  have N3 := Fr.app N2 N3q
  show oG p e below _ (T3.setTop (mkF m 13 #[sR o_, sR sb_, .val .null, sR ar_, sU] [(.int cn_)]))
  refine og (fun _ hr => XS.istore X3.here hx rfl (hb hby dc26_13) rfl (l' := #[sR o_, sR sb_, .val .null, sR ar_, sI cn_]) rfl (XS.aloadN X3.here hx rfl (hb hby dc26_15) rfl rfl hr)) ?_
  show oG p e below _ (T3.setTop (mkF m 16 #[sR o_, sR sb_, .val .null, sR ar_, sI cn_] [(.ref sb_)]))
  refine own_cv X3 hx hZ hown (notFace_of_selects (args := #[]) (mvT hZ (hw _ (own_m 131 rfl)))) (hw _ (own_m 165 rfl)) (hw _ (own_m 129 rfl)) (hw _ (own_m 131 rfl)) (hw _ (own_m 130 rfl)) (hw _ (own_m 56 rfl)) (hw _ (own_m 132 rfl)) (by decide) Eb_ (rm := { frames := 0, cells := 0, slots := 0, locals := 0 }) (rm_isLatin1_6 l Z a0 hw [] sb_ i_COMPACT_STRINGS h0 n0 Z0 S_COMPACT_STRINGS Cb_ hs_COMPACT_STRINGS) (by decide) (W := 0) (by decide) (by decide) (by decide) e3 (by rw [hml]; rfl) (argsL := []) (lenOf own_pd15 rfl) (rest := []) rfl rfl (Nat.le_of_eq rfl) (hb hby dc26_16) ?_
  intro _ T4 L4 X4 hQ4
  obtain ⟨rfl, N4q, e4⟩ := hQ4
  have N4 := Fr.app N3 N4q
  show oG p e below _ (T4.setTop (mkF m 19 #[sR o_, sR sb_, .val .null, sR ar_, sI cn_] [(.int 1)]))
  refine og (fun _ hr => XS.ifNo X4.here hx rfl (hb hby dc26_19) rfl ((if0 _ _).trans (feq (by decide)).1) (XS.aloadN X4.here hx rfl (hb hby dc26_22) rfl rfl (XS.iconst X4.here hx rfl (hb hby dc26_23) hr))) ?_
  show oG p e below _ (T4.setTop (mkF m 24 #[sR o_, sR sb_, .val .null, sR ar_, sI cn_] [(.int 0), (.ref o_)]))
  obtain ⟨T5, h5, X5, e5, W5, st5⟩ := putFN X4 hx hZ hown (hw _ (own_m 26 rfl)) Via.refl e4 Co_ Eo_ (Or.inr ⟨(hw _ (own_m 27 rfl)), rfl, hnm⟩) (hw _ (own_m 2 rfl)) (ty := .byte) (v' := .int 0) (by decide) rfl (by decide) (g := (mkF m 24 #[sR o_, sR sb_, .val .null, sR ar_, sI cn_] [(.int 0), (.ref o_)])) rfl rfl (hb hby dc26_24)
  refine og st5 ?_
  have f6 := Co_.same W5
  have N7 := Fr.snoc X5 N4 geo_
  show oG p e below _ (T5.setTop (mkF m 27 #[sR o_, sR sb_, .val .null, sR ar_, sI cn_] []))
  refine og (fun _ hr => XS.aloadN X5.here hx rfl (hb hby dc26_27) rfl rfl (XS.aloadN X5.here hx rfl (hb hby dc26_28) rfl rfl (XS.iconst X5.here hx rfl (hb hby dc26_29) (XS.iload X5.here hx rfl (hb hby dc26_30) rfl hr)))) ?_
  show oG p e below _ (T5.setTop (mkF m 32 #[sR o_, sR sb_, .val .null, sR ar_, sI cn_] [(.int cn_), (.int 0), (.ref ar_), (.ref o_)]))
  have f9 := (Ka_.other W5 nao_)
  have f10 := (Ea_.wr W5)
  have Z11 := (Nat.le_trans Z0 (Nat.le_of_eq W5.size.symm))
  refine own_cs X5 hx hZ hown (hw _ (own_m 166 rfl)) (hw _ (own_m 167 rfl)) (hw _ (own_m 168 rfl)) (hw _ (own_m 169 rfl)) (by decide) (rm := { frames := 2, cells := 1, slots := 40, locals := 56 }) (rm_cr16x l Z a0 hw [] cn_ cs_ ar_ ka_ va_ h5 n0 Z11 f9 f10 hcn_ hhs_ hvl_ hfit_) (by decide) (W := 1) (by decide) (by decide) (by decide) e5 (by rw [hml]; rfl) (argsL := [(.ref ar_), (.int 0), (.int cn_)]) (lenOf own_pd18 rfl) (rest := [(.ref o_)]) rfl rfl (Nat.le_of_eq rfl) (hb hby dc26_32) ?_
  intro _ T8 L8 X8 hQ8
  obtain ⟨b8_0, kb8_0, rfl, N8q, K8, ge8_0, sz8_0, f8_0, f8_1⟩ := hQ8
  have N8 := Fr.app N7 N8q
  have K13 := (K0.wr W5 (Or.inl (List.mem_of_getElem? (i := 0) rfl)))
  have sz12 : h0.size ≤ b8_0 := Nat.le_trans K13.1 sz8_0
  show oG p e below _ (T8.setTop (mkF m 35 #[sR o_, sR sb_, .val .null, sR ar_, sI cn_] [(.ref b8_0), (.ref o_)]))
  have f14 := ((Eo_.wr W5).keep K8)
  have f15 := ((Vo_.other W5 (Or.inr (slot_ne (Or.inr (hw _ (own_m 29 rfl))) (Or.inr (hw _ (own_m 27 rfl))) (by decide) (t := (.array .byte)) (t' := .byte) (by decide) (by decide)))).keep K8 nin0)
  obtain ⟨T16, h16, X16, e16, W16, st16⟩ := putF X8 hx hZ hown (host := "") (Or.inl (hw _ (own_m 28 rfl))) Via.refl rfl f15 f14 (Or.inr ⟨(hw _ (own_m 29 rfl)), rfl, hnm⟩) (hw _ (own_m 2 rfl)) (ty := (.array .byte)) (by decide) rfl rfl (g := (mkF m 35 #[sR o_, sR sb_, .val .null, sR ar_, sI cn_] [(.ref b8_0), (.ref o_)])) rfl rfl (hb hby dc26_35)
  refine og st16 ?_
  have f17 := f15.same W16
  have N18 := Fr.snoc X16 N8 geo_
  show oG p e below _ (T16.setTop (mkF m 38 #[sR o_, sR sb_, .val .null, sR ar_, sI cn_] []))
  refine og (fun _ hr => XS.goto X16.here hx rfl (pc0 := 38) (pc' := 97) rfl (hb hby dc26_38) (by decide) (by decide) hr) ?_
  show oG p e below _ (T16.setTop (mkF m 97 #[sR o_, sR sb_, .val .null, sR ar_, sI cn_] []))
  have K19 := ((K13.trans K8 all0).wr W16 (Or.inl (List.mem_of_getElem? (i := 0) rfl)))
  have f20 := ((f6.keep K8 nin0).other W16 (Or.inr (slot_ne (Or.inr (hw _ (own_m 27 rfl))) (Or.inr (hw _ (own_m 29 rfl))) (by decide) (t := .byte) (t' := (.array .byte)) (by decide) (by decide))))
  have f21 := (f8_1.other W16 (Ne.symm (Nat.ne_of_lt (Nat.lt_of_lt_of_le (Eo_.wr W5).lt sz8_0))))
  exact own_ret0 X16 hx hlk Bd.returns (hb hby dc26_97) (by decide) (by decide) (by rw [e16]; exact ⟨b8_0, kb8_0, rfl, N18, K19, ge8_0, sz12, f20, f17, f21⟩)
theorem dc25_0 : decode jdk_42_method_53_code 0 = .ok (.aload_n 0, 1) := by decide +kernel
theorem dc25_1 : decode jdk_42_method_53_code 1 = .ok (.aload_n 1, 1) := by decide +kernel
theorem dc25_2 : decode jdk_42_method_53_code 2 = .ok (.aconst_null, 1) := by decide +kernel
theorem dc25_3 : decode jdk_42_method_53_code 3 = .ok (.invokespecial 489, 3) := by decide +kernel
theorem own_pd20 : parseMethodDescriptor "(Ljava/lang/AbstractStringBuilder;Ljava/lang/Void;)V" = some ⟨[(.object "java/lang/AbstractStringBuilder"), (.object "java/lang/Void")], none⟩ := by decide +kernel
theorem dc25_6 : decode jdk_42_method_53_code 6 = .ok (.return_, 1) := by decide +kernel
def Q_it16x (Z : State) (o_ : Addr) (cn_ : Int32) (cs_ : List Int32) (h0 : Heap) (n0 : Nat) (v : Option Value) (h : Heap) (L : List Loc) : Prop := (∃ (b : Addr) (k : ClassId), v = none ∧ Fr n0 L ∧ Keep h0 h [o_] ∧ n0 ≤ b ∧ h0.size ≤ b ∧ Fld Z h o_ "java/lang/String" "coder" "B" (.int 0) ∧ Fld Z h o_ "java/lang/String" "value" "[B" (.ref b) ∧ Arv Z h b k .byte cn_ (own_lb cs_) (.int 0))
set_option maxRecDepth 65536 in
set_option maxHeartbeats 40000000 in
theorem rm_it16x (l : Launch) (Z : State) (a0 : Array Value) (hw : ∀ d ∈ tables_1, d.before a0 Z = true) (ws : List Jvm.Cond) (o_ : Addr) (sb_ : Addr) (cn_ : Int32) (cs_ : List Int32) (ar_ : Addr) (ka_ : ClassId) (va_ : List Value) (i_COMPACT_STRINGS : Int32) (h0 : Heap) (n0 : Nat) (Z0 : n0 ≤ h0.size) (Eo_ : Exa Z h0 o_ "java/lang/String") (Vo_ : Fld Z h0 o_ "java/lang/String" "value" "[B" .null) (Co_ : Fld Z h0 o_ "java/lang/String" "coder" "B" (.int 0)) (geo_ : n0 ≤ o_) (nbo_ : sb_ ≠ o_) (nao_ : ar_ ≠ o_) (Eb_ : Exa Z h0 sb_ "java/lang/StringBuilder") (Vb_ : Fld Z h0 sb_ "java/lang/AbstractStringBuilder" "value" "[B" (.ref ar_)) (Cb_ : Fld Z h0 sb_ "java/lang/AbstractStringBuilder" "coder" "B" (.int 0)) (Nb_ : Fld Z h0 sb_ "java/lang/AbstractStringBuilder" "count" "I" (.int cn_)) (Ka_ : Arv Z h0 ar_ ka_ .byte (16 : Int32) va_ (.int 0)) (Ea_ : Exa Z h0 ar_ "[B") (hcn_ : Int32.ofNat cs_.length = cn_) (hhs_ : own_hs va_ cs_) (hvl_ : va_.length = 16) (hfit_ : cs_.length ≤ 16) (S_COMPACT_STRINGS : Sta Z h0 "java/lang/String" "COMPACT_STRINGS" "Z" (.int i_COMPACT_STRINGS)) (hs_COMPACT_STRINGS : ¬ (i_COMPACT_STRINGS = (0 : Int32))) :
    MetFree l (⟨"java/lang/String", "<init>", "(Ljava/lang/StringBuilder;)V"⟩ : MethodName) (head1 (Jvm.Cond.code (⟨"java/lang/String", "<init>", "(Ljava/lang/StringBuilder;)V"⟩ : MethodName) jdk_42_method_53_code 2 none :: ws) ({ frames := 4, cells := 1, slots := 40, locals := 87 } : Room)) (fun aA U => aA = #[(.ref o_), (.ref sb_)] ∧ Z.Warmed39 U.vm ∧ U.heap = h0) (fun _ _ _ _ _ => True) (fun _ U o U' => ∃ v L, o = .returned v ∧ Q_it16x Z o_ cn_ cs_ h0 n0 v U'.heap L ∧ FrameEnd U o U' L ({ frames := 4, cells := 1, slots := 40, locals := 87 } : Room).cells ({ frames := 4, cells := 1, slots := 40, locals := 87 } : Room).slots) := by
  refine MetFree.of_bodySF (plainFor_of_name own_pn_java_lang_String) hisR ?_
  intro p e s m args below meth c s₁ Bd hml0 hP hK
  obtain ⟨rfl, hZ, hh⟩ := hP
  have hx := Bd.exec
  have hby := Bd.bytes
  have hlk : meth.locks = false := BodyLoose.notSynchronized Bd
  have hml : c.maxLocals = 2 := hml0
  have hown : s.vm.findClass "java/lang/String" = some m.cls := findClass_of_methodNamed Bd.named
  have hnm := (name_of_methodNamed Bd.named Bd.method).1
  have X0 : Stand p l e ({ frames := 4, cells := 1, slots := 40, locals := 87 } : Room) s m #[(.ref o_), (.ref sb_)] below meth c s₁ [] 0 0 := Stand.of_body Bd
  have e0 : s₁.heap = h0 := by rw [← hh, Bd.state]; rfl
  have N0 := Fr.nil n0
  have K0 : Keep h0 h0 [o_] := Keep.refl _ _
  show oG p e below (own_K s (Q_it16x Z o_ cn_ cs_ h0 n0) ({ frames := 4, cells := 1, slots := 40, locals := 87 } : Room).cells ({ frames := 4, cells := 1, slots := 40, locals := 87 } : Room).slots) (s₁.setTop (entryFrame m #[(.ref o_), (.ref sb_)] 2))
  rw [(by first | (simp [entryFrame, mkF, argsToLocals, Value.category]; done) | rfl : entryFrame m #[(.ref o_), (.ref sb_)] 2 = mkF m 0 #[sR o_, sR sb_] [])]
  show oG p e below _ (s₁.setTop (mkF m 0 #[sR o_, sR sb_] []))
  refine og (fun _ hr => XS.aloadN X0.here hx rfl (hb hby dc25_0) rfl rfl (XS.aloadN X0.here hx rfl (hb hby dc25_1) rfl rfl (XS.aconstNull X0.here hx rfl (hb hby dc25_2) hr))) ?_
  show oG p e below _ (s₁.setTop (mkF m 3 #[sR o_, sR sb_] [.null, (.ref sb_), (.ref o_)]))
  refine own_cp X0 hx hZ hown rfl (hw _ (own_m 149 rfl)) (hw _ (own_m 150 rfl)) (hw _ (own_m 3 rfl)) (hw _ (own_m 151 rfl)) (by decide) (rm := { frames := 3, cells := 1, slots := 40, locals := 71 }) (rm_is16x l Z a0 hw [] o_ sb_ cn_ cs_ ar_ ka_ va_ i_COMPACT_STRINGS h0 n0 Z0 Eo_ Vo_ Co_ geo_ nbo_ nao_ Eb_ Vb_ Cb_ Nb_ Ka_ Ea_ hcn_ hhs_ hvl_ hfit_ S_COMPACT_STRINGS hs_COMPACT_STRINGS) (by decide) (W := 0) (by decide) (by decide) (by decide) e0 (by rw [hml]; rfl) (argsL := [(.ref sb_), .null]) (lenOf own_pd20 rfl) (rest := []) rfl rfl (Nat.le_of_eq rfl) (hb hby dc25_3) ?_
  intro _ T1 L1 X1 hQ1
  obtain ⟨b1_0, kb1_0, rfl, N1q, K1, ge1_0, sz1_0, f1_0, f1_1, f1_2⟩ := hQ1
  have N1 := Fr.app N0 N1q
  have sz2 : h0.size ≤ b1_0 := Nat.le_trans K0.1 sz1_0
  show oG p e below _ (T1.setTop (mkF m 6 #[sR o_, sR sb_] []))
  have K3 := (K0.trans K1 (allS (Or.inl (List.mem_of_getElem? (i := 0) rfl)) all0))
  exact own_ret0 X1 hx hlk Bd.returns (hb hby dc25_6) (by decide) (by decide) (by exact ⟨b1_0, kb1_0, rfl, N1, K3, ge1_0, sz2, f1_0, f1_1, f1_2⟩)
theorem dc24_0 : decode jdk_67_method_42_code 0 = .ok (.new 18, 3) := by decide +kernel
theorem dc24_3 : decode jdk_67_method_42_code 3 = .ok (.dup, 1) := by decide +kernel
theorem dc24_4 : decode jdk_67_method_42_code 4 = .ok (.aload_n 0, 1) := by decide +kernel
theorem dc24_5 : decode jdk_67_method_42_code 5 = .ok (.invokespecial 137, 3) := by decide +kernel
theorem own_pd21 : parseMethodDescriptor "(Ljava/lang/StringBuilder;)V" = some ⟨[(.object "java/lang/StringBuilder")], none⟩ := by decide +kernel
theorem dc24_8 : decode jdk_67_method_42_code 8 = .ok (.areturn, 1) := by decide +kernel
def Q_ts16x (Z : State) (cn_ : Int32) (cs_ : List Int32) (h0 : Heap) (n0 : Nat) (v : Option Value) (h : Heap) (L : List Loc) : Prop := (∃ (a b : Addr) (k : ClassId), v = some (.ref a) ∧ Fr n0 L ∧ Keep h0 h [] ∧ n0 ≤ a ∧ h0.size ≤ a ∧ n0 ≤ b ∧ h0.size ≤ b ∧ a ≠ b ∧ Exa Z h a "java/lang/String" ∧ Fld Z h a "java/lang/String" "coder" "B" (.int 0) ∧ Fld Z h a "java/lang/String" "value" "[B" (.ref b) ∧ Arv Z h b k .byte cn_ (own_lb cs_) (.int 0))
set_option maxRecDepth 65536 in
set_option maxHeartbeats 40000000 in
theorem rm_ts16x (l : Launch) (Z : State) (a0 : Array Value) (hw : ∀ d ∈ tables_1, d.before a0 Z = true) (ws : List Jvm.Cond) (sb_ : Addr) (cn_ : Int32) (cs_ : List Int32) (ar_ : Addr) (ka_ : ClassId) (va_ : List Value) (i_COMPACT_STRINGS : Int32) (h0 : Heap) (n0 : Nat) (Z0 : n0 ≤ h0.size) (Eb_ : Exa Z h0 sb_ "java/lang/StringBuilder") (Vb_ : Fld Z h0 sb_ "java/lang/AbstractStringBuilder" "value" "[B" (.ref ar_)) (Cb_ : Fld Z h0 sb_ "java/lang/AbstractStringBuilder" "coder" "B" (.int 0)) (Nb_ : Fld Z h0 sb_ "java/lang/AbstractStringBuilder" "count" "I" (.int cn_)) (Ka_ : Arv Z h0 ar_ ka_ .byte (16 : Int32) va_ (.int 0)) (Ea_ : Exa Z h0 ar_ "[B") (hcn_ : Int32.ofNat cs_.length = cn_) (hhs_ : own_hs va_ cs_) (hvl_ : va_.length = 16) (hfit_ : cs_.length ≤ 16) (S_COMPACT_STRINGS : Sta Z h0 "java/lang/String" "COMPACT_STRINGS" "Z" (.int i_COMPACT_STRINGS)) (hs_COMPACT_STRINGS : ¬ (i_COMPACT_STRINGS = (0 : Int32))) :
    MetFree l (⟨"java/lang/StringBuilder", "toString", "()Ljava/lang/String;"⟩ : MethodName) (head1 (Jvm.Cond.code (⟨"java/lang/StringBuilder", "toString", "()Ljava/lang/String;"⟩ : MethodName) jdk_67_method_42_code 1 (some (.object "java/lang/String")) :: ws) ({ frames := 5, cells := 2, slots := 44, locals := 101 } : Room)) (fun aA U => aA = #[(.ref sb_)] ∧ Z.Warmed39 U.vm ∧ U.heap = h0) (fun _ _ _ _ _ => True) (fun _ U o U' => ∃ v L, o = .returned v ∧ Q_ts16x Z cn_ cs_ h0 n0 v U'.heap L ∧ FrameEnd U o U' L ({ frames := 5, cells := 2, slots := 44, locals := 101 } : Room).cells ({ frames := 5, cells := 2, slots := 44, locals := 101 } : Room).slots) := by
  refine MetFree.of_bodySF (plainFor_of_name own_pn_java_lang_StringBuilder) hisR ?_
  intro p e s m args below meth c s₁ Bd hml0 hP hK
  obtain ⟨rfl, hZ, hh⟩ := hP
  have hx := Bd.exec
  have hby := Bd.bytes
  have hlk : meth.locks = false := BodyLoose.notSynchronized Bd
  have hml : c.maxLocals = 1 := hml0
  have hown : s.vm.findClass "java/lang/StringBuilder" = some m.cls := findClass_of_methodNamed Bd.named
  have hnm := (name_of_methodNamed Bd.named Bd.method).1
  have X0 : Stand p l e ({ frames := 5, cells := 2, slots := 44, locals := 101 } : Room) s m #[(.ref sb_)] below meth c s₁ [] 0 0 := Stand.of_body Bd
  have e0 : s₁.heap = h0 := by rw [← hh, Bd.state]; rfl
  have N0 := Fr.nil n0
  have K0 : Keep h0 h0 [] := Keep.refl _ _
  show oG p e below (own_K s (Q_ts16x Z cn_ cs_ h0 n0) ({ frames := 5, cells := 2, slots := 44, locals := 101 } : Room).cells ({ frames := 5, cells := 2, slots := 44, locals := 101 } : Room).slots) (s₁.setTop (entryFrame m #[(.ref sb_)] 1))
  rw [(by first | (simp [entryFrame, mkF, argsToLocals, Value.category]; done) | rfl : entryFrame m #[(.ref sb_)] 1 = mkF m 0 #[sR sb_] [])]
  show oG p e below _ (s₁.setTop (mkF m 0 #[sR sb_] []))
  obtain ⟨T1, h1, X1, e1, E1, A1, D1, -, st1⟩ := newO X0 hx hZ hown (hw _ (own_m 145 rfl)) (hw _ (own_m 2 rfl)) (hw _ (own_m 3 rfl)) e0 (g := (mkF m 0 #[sR sb_] [])) rfl (hb hby dc24_0) (by decide) (by decide)
  obtain ⟨b1, g1⟩ : ∃ z, z = h0.size := ⟨_, rfl⟩
  rw [← g1] at A1 D1 st1
  have ge2 : n0 ≤ b1 := Nat.le_trans Z0 (Nat.le_of_eq g1.symm)
  have sz3 : h0.size ≤ b1 := Nat.le_trans K0.1 (Nat.le_of_eq g1.symm)
  refine og st1 ?_
  have f4 : Fld Z h1 b1 "java/lang/String" "coder" "B" (.int 0) := D1 (Or.inr (hw _ (own_m 27 rfl))) (ty := .byte) (by decide)
  have f5 : Fld Z h1 b1 "java/lang/String" "value" "[B" .null := D1 (Or.inr (hw _ (own_m 29 rfl))) (ty := (.array .byte)) (by decide)
  show oG p e below _ (T1.setTop (mkF m 3 #[sR sb_] [(.ref b1)]))
  refine og (fun _ hr => XS.dup X1.here hx rfl (hb hby dc24_3) rfl rfl (XS.aloadN X1.here hx rfl (hb hby dc24_4) rfl rfl hr)) ?_
  show oG p e below _ (T1.setTop (mkF m 5 #[sR sb_] [(.ref sb_), (.ref b1), (.ref b1)]))
  have f7 := (Eb_.ext E1)
  have f8 := (Vb_.ext E1)
  have f9 := (Cb_.ext E1)
  have f10 := (Nb_.ext E1)
  have f11 := (Ka_.ext E1)
  have f12 := (Ea_.ext E1)
  have f13 := (S_COMPACT_STRINGS.ext E1)
  have Z14 := (Nat.le_trans Z0 E1.1)
  refine own_cp X1 hx hZ hown rfl (hw _ (own_m 146 rfl)) (hw _ (own_m 147 rfl)) (hw _ (own_m 3 rfl)) (hw _ (own_m 148 rfl)) (by decide) (rm := { frames := 4, cells := 1, slots := 40, locals := 87 }) (rm_it16x l Z a0 hw [] b1 sb_ cn_ cs_ ar_ ka_ va_ i_COMPACT_STRINGS h1 n0 Z14 A1 f5 f4 ge2 (Nat.ne_of_lt (Nat.lt_of_lt_of_le Eb_.lt (Nat.le_of_eq g1.symm))) (Nat.ne_of_lt (Nat.lt_of_lt_of_le Ka_.lt (Nat.le_of_eq g1.symm))) f7 f8 f9 f10 f11 f12 hcn_ hhs_ hvl_ hfit_ f13 hs_COMPACT_STRINGS) (by decide) (W := 1) (by decide) (by decide) (by decide) e1 (by rw [hml]; rfl) (argsL := [(.ref sb_)]) (lenOf own_pd21 rfl) (rest := [(.ref b1)]) rfl rfl (Nat.le_of_eq rfl) (hb hby dc24_5) ?_
  intro _ T6 L6 X6 hQ6
  obtain ⟨b6_0, kb6_0, rfl, N6q, K6, ge6_0, sz6_0, f6_0, f6_1, f6_2⟩ := hQ6
  have N6 := Fr.app N0 N6q
  have K16 := (K0.ext E1)
  have sz15 : h0.size ≤ b6_0 := Nat.le_trans K16.1 sz6_0
  show oG p e below _ (T6.setTop (mkF m 8 #[sR sb_] [(.ref b1)]))
  have K17 := (K16.trans K6 (allS (Or.inr sz3) all0))
  have f18 := (A1.keep K6)
  exact own_retR X6 hx hlk Bd.returns rfl rfl (hb hby dc24_8) (by decide) (by decide) (by exact ⟨b1, b6_0, kb6_0, rfl, N6, K17, ge2, sz3, ge6_0, sz15, (Nat.ne_of_lt (Nat.lt_of_lt_of_le A1.lt sz6_0)), f18, f6_0, f6_1, f6_2⟩)
def Q_cr34x (Z : State) (cn_ : Int32) (cs_ : List Int32) (h0 : Heap) (n0 : Nat) (v : Option Value) (h : Heap) (L : List Loc) : Prop := (∃ (a : Addr) (k : ClassId), v = some (.ref a) ∧ Fr n0 L ∧ Keep h0 h [] ∧ n0 ≤ a ∧ h0.size ≤ a ∧ Exa Z h a "[B" ∧ Arv Z h a k .byte cn_ (own_lb cs_) (.int 0))
set_option maxRecDepth 65536 in
set_option maxHeartbeats 40000000 in
theorem rm_cr34x (l : Launch) (Z : State) (a0 : Array Value) (hw : ∀ d ∈ tables_1, d.before a0 Z = true) (ws : List Jvm.Cond) (cn_ : Int32) (cs_ : List Int32) (ar_ : Addr) (ka_ : ClassId) (va_ : List Value) (h0 : Heap) (n0 : Nat) (Z0 : n0 ≤ h0.size) (Ka_ : Arv Z h0 ar_ ka_ .byte (34 : Int32) va_ (.int 0)) (Ea_ : Exa Z h0 ar_ "[B") (hcn_ : Int32.ofNat cs_.length = cn_) (hhs_ : own_hs va_ cs_) (hvl_ : va_.length = 34) (hfit_ : cs_.length ≤ 34) :
    MetFree l (⟨"java/util/Arrays", "copyOfRange", "([BII)[B"⟩ : MethodName) (head1 (Jvm.Cond.code (⟨"java/util/Arrays", "copyOfRange", "([BII)[B"⟩ : MethodName) jdk_65_method_132_code 3 (some (.array .byte)) :: ws) ({ frames := 2, cells := 1, slots := 40, locals := 56 } : Room)) (fun aA U => aA = #[(.ref ar_), (.int 0), (.int cn_)] ∧ Z.Warmed39 U.vm ∧ U.heap = h0) (fun _ _ _ _ _ => True) (fun _ U o U' => ∃ v L, o = .returned v ∧ Q_cr34x Z cn_ cs_ h0 n0 v U'.heap L ∧ FrameEnd U o U' L ({ frames := 2, cells := 1, slots := 40, locals := 56 } : Room).cells ({ frames := 2, cells := 1, slots := 40, locals := 56 } : Room).slots) := by
  refine MetFree.of_bodySF (plainFor_of_name own_pn_java_util_Arrays) hisR ?_
  intro p e s m args below meth c s₁ Bd hml0 hP hK
  obtain ⟨rfl, hZ, hh⟩ := hP
  have hx := Bd.exec
  have hby := Bd.bytes
  have hlk : meth.locks = false := BodyLoose.notSynchronized Bd
  have hml : c.maxLocals = 3 := hml0
  have hown : s.vm.findClass "java/util/Arrays" = some m.cls := findClass_of_methodNamed Bd.named
  have hnm := (name_of_methodNamed Bd.named Bd.method).1
  have X0 : Stand p l e ({ frames := 2, cells := 1, slots := 40, locals := 56 } : Room) s m #[(.ref ar_), (.int 0), (.int cn_)] below meth c s₁ [] 0 0 := Stand.of_body Bd
  have e0 : s₁.heap = h0 := by rw [← hh, Bd.state]; rfl
  have N0 := Fr.nil n0
  have K0 : Keep h0 h0 [] := Keep.refl _ _
  show oG p e below (own_K s (Q_cr34x Z cn_ cs_ h0 n0) ({ frames := 2, cells := 1, slots := 40, locals := 56 } : Room).cells ({ frames := 2, cells := 1, slots := 40, locals := 56 } : Room).slots) (s₁.setTop (entryFrame m #[(.ref ar_), (.int 0), (.int cn_)] 3))
  rw [(by first | (simp [entryFrame, mkF, argsToLocals, Value.category]; done) | rfl : entryFrame m #[(.ref ar_), (.int 0), (.int cn_)] 3 = mkF m 0 #[sR ar_, sI 0, sI cn_] [])]
  show oG p e below _ (s₁.setTop (mkF m 0 #[sR ar_, sI 0, sI cn_] []))
  refine og (fun _ hr => XS.iloadN X0.here hx rfl (hb hby dc30_0) rfl (XS.ifNo X0.here hx rfl (hb hby dc30_1) rfl ((if0 _ _).trans (teq (by decide)).2) (XS.iloadN X0.here hx rfl (hb hby dc30_4) rfl (XS.aloadN X0.here hx rfl (hb hby dc30_5) rfl rfl (own_alen X0 hx hZ e0 Ka_ rfl rfl (hb hby dc30_6) hr))))) ?_
  show oG p e below _ (s₁.setTop (mkF m 7 #[sR ar_, sI 0, sI cn_] [(.int 34), (.int cn_)]))
  rcases Classical.em (cn_ = (34 : Int32)) with c1 | c1
  · skip
    refine og (fun _ hr => XS.icmpYes X0.here hx rfl (pc0 := 7) (pc' := 17) rfl (hb hby dc30_7) rfl (teq c1).1 (by decide) (by decide) hr) ?_
    show oG p e below _ (s₁.setTop (mkF m 17 #[sR ar_, sI 0, sI cn_] []))
    refine og (fun _ hr => XS.aloadN X0.here hx rfl (hb hby dc30_17) rfl rfl hr) ?_
    show oG p e below _ (s₁.setTop (mkF m 18 #[sR ar_, sI 0, sI cn_] [(.ref ar_)]))
    obtain ⟨T2, h2, X2, e2, E2, A2, EA2, st2⟩ := cloneH X0 hx hZ hown (hw _ (own_m 249 rfl)) (hw _ (own_m 250 rfl)) (hw _ (own_m 254 rfl)) (hw _ (own_m 252 rfl)) (hw _ (own_m 253 rfl)) (hw _ (own_m 255 rfl)) e0 Ka_.arh Ea_ (g := (mkF m 18 #[sR ar_, sI 0, sI cn_] [(.ref ar_)])) rfl (by rw [hml]; rfl) rfl (hb hby dc30_18) (by decide) (W := 0) (cap := 34) (by show 2 * 0 + _ ≤ _; exact Nat.le_of_eq rfl) (by decide) (by decide) (by decide) (by decide)
    obtain ⟨b2, g2⟩ : ∃ z, z = h0.size := ⟨_, rfl⟩
    rw [← g2] at A2 EA2 st2
    have ge3 : n0 ≤ b2 := Nat.le_trans Z0 (Nat.le_of_eq g2.symm)
    have sz4 : h0.size ≤ b2 := Nat.le_trans K0.1 (Nat.le_of_eq g2.symm)
    refine og st2 ?_
    have f5 : Arv Z h2 b2 ka_ .byte (34 : Int32) va_ (.int 0) := A2
    show oG p e below _ (T2.setTop (mkF m 21 #[sR ar_, sI 0, sI cn_] [(.ref b2)]))
    obtain ⟨T6, X6, e6, st6⟩ := castY X2 hx hZ hown (hw _ (own_m 256 rfl)) e2 (Ins.self EA2) (g := (mkF m 21 #[sR ar_, sI 0, sI cn_] [(.ref b2)])) rfl rfl (hb hby dc30_21)
    refine og st6 ?_
    show oG p e below _ (T6.setTop (mkF m 24 #[sR ar_, sI 0, sI cn_] [(.ref b2)]))
    have f7 : Arv Z h2 b2 ka_ .byte cn_ (own_lb cs_) (.int 0) := by have q := f5; rw [own_hs_all hhs_ (by rw [hvl_]; have r := (own_tnat hcn_ (by omega)).1; rw [c1] at r; exact r), ← c1] at q; exact q
    have K8 := (K0.ext E2)
    exact own_retR X6 hx hlk Bd.returns rfl rfl (hb hby dc30_24) (by decide) (by decide) (by rw [e6]; exact ⟨b2, ka_, rfl, N0, K8, ge3, sz4, EA2, f7⟩)
  refine og (fun _ hr => XS.icmpNo X0.here hx rfl (hb hby dc30_7) rfl (feq c1).1 hr) ?_
  show oG p e below _ (s₁.setTop (mkF m 10 #[sR ar_, sI 0, sI cn_] []))
  refine og (fun _ hr => XS.aloadN X0.here hx rfl (hb hby dc30_10) rfl rfl (XS.iloadN X0.here hx rfl (hb hby dc30_11) rfl (XS.iloadN X0.here hx rfl (hb hby dc30_12) rfl hr))) ?_
  show oG p e below _ (s₁.setTop (mkF m 13 #[sR ar_, sI 0, sI cn_] [(.int cn_), (.int 0), (.ref ar_)]))
  refine own_cs X0 hx hZ hown (hw _ (own_m 170 rfl)) (hw _ (own_m 171 rfl)) (hw _ (own_m 168 rfl)) (hw _ (own_m 172 rfl)) (by decide) (rm := { frames := 1, cells := 1, slots := 40, locals := 40 }) (rm_crb l Z a0 hw [] ar_ ka_ (34 : Int32) va_ (0 : Int32) cn_ 0 cs_.length 34 h0 n0 Z0 Ka_ rfl hcn_ rfl (Nat.zero_le _) hfit_ (by decide)) (by decide) (W := 0) (by decide) (by decide) (by decide) e0 (by rw [hml]; rfl) (argsL := [(.ref ar_), (.int 0), (.int cn_)]) (lenOf own_pd18 rfl) (rest := []) rfl rfl (Nat.le_of_eq rfl) (hb hby dc30_13) ?_
  intro _ T9 L9 X9 hQ9
  obtain ⟨b9_0, kb9_0, rfl, N9q, K9, ge9_0, sz9_0, f9_0, f9_1⟩ := hQ9
  have N9 := Fr.app N0 N9q
  have sz10 : h0.size ≤ b9_0 := Nat.le_trans K0.1 sz9_0
  show oG p e below _ (T9.setTop (mkF m 16 #[sR ar_, sI 0, sI cn_] [(.ref b9_0)]))
  have f11 : Arv Z T9.heap b9_0 kb9_0 .byte cn_ (own_lb cs_) (.int 0) := by have q := f9_1; rw [Nat.sub_zero, own_hs_sub hhs_, show cn_ - (0 : Int32) = cn_ from by apply Int32.toInt_inj.mp; have d := c_isub cn_ 0; have r := rng32 cn_; have r2 := rng32 (cn_ - 0); simp only [Int32.reduceToInt] at d; omega] at q; exact q
  have K12 := (K0.trans K9 all0)
  exact own_retR X9 hx hlk Bd.returns rfl rfl (hb hby dc30_16) (by decide) (by decide) (by exact ⟨b9_0, kb9_0, rfl, N9, K12, ge9_0, sz10, f9_0, f11⟩)
def Q_is34x (Z : State) (o_ : Addr) (cn_ : Int32) (cs_ : List Int32) (h0 : Heap) (n0 : Nat) (v : Option Value) (h : Heap) (L : List Loc) : Prop := (∃ (b : Addr) (k : ClassId), v = none ∧ Fr n0 L ∧ Keep h0 h [o_] ∧ n0 ≤ b ∧ h0.size ≤ b ∧ Fld Z h o_ "java/lang/String" "coder" "B" (.int 0) ∧ Fld Z h o_ "java/lang/String" "value" "[B" (.ref b) ∧ Arv Z h b k .byte cn_ (own_lb cs_) (.int 0))
set_option maxRecDepth 65536 in
set_option maxHeartbeats 40000000 in
theorem rm_is34x (l : Launch) (Z : State) (a0 : Array Value) (hw : ∀ d ∈ tables_1, d.before a0 Z = true) (ws : List Jvm.Cond) (o_ : Addr) (sb_ : Addr) (cn_ : Int32) (cs_ : List Int32) (ar_ : Addr) (ka_ : ClassId) (va_ : List Value) (i_COMPACT_STRINGS : Int32) (h0 : Heap) (n0 : Nat) (Z0 : n0 ≤ h0.size) (Eo_ : Exa Z h0 o_ "java/lang/String") (Vo_ : Fld Z h0 o_ "java/lang/String" "value" "[B" .null) (Co_ : Fld Z h0 o_ "java/lang/String" "coder" "B" (.int 0)) (geo_ : n0 ≤ o_) (nbo_ : sb_ ≠ o_) (nao_ : ar_ ≠ o_) (Eb_ : Exa Z h0 sb_ "java/lang/StringBuilder") (Vb_ : Fld Z h0 sb_ "java/lang/AbstractStringBuilder" "value" "[B" (.ref ar_)) (Cb_ : Fld Z h0 sb_ "java/lang/AbstractStringBuilder" "coder" "B" (.int 0)) (Nb_ : Fld Z h0 sb_ "java/lang/AbstractStringBuilder" "count" "I" (.int cn_)) (Ka_ : Arv Z h0 ar_ ka_ .byte (34 : Int32) va_ (.int 0)) (Ea_ : Exa Z h0 ar_ "[B") (hcn_ : Int32.ofNat cs_.length = cn_) (hhs_ : own_hs va_ cs_) (hvl_ : va_.length = 34) (hfit_ : cs_.length ≤ 34) (S_COMPACT_STRINGS : Sta Z h0 "java/lang/String" "COMPACT_STRINGS" "Z" (.int i_COMPACT_STRINGS)) (hs_COMPACT_STRINGS : ¬ (i_COMPACT_STRINGS = (0 : Int32))) :
    MetFree l (⟨"java/lang/String", "<init>", "(Ljava/lang/AbstractStringBuilder;Ljava/lang/Void;)V"⟩ : MethodName) (head1 (Jvm.Cond.code (⟨"java/lang/String", "<init>", "(Ljava/lang/AbstractStringBuilder;Ljava/lang/Void;)V"⟩ : MethodName) jdk_42_method_150_code 5 none :: ws) ({ frames := 3, cells := 1, slots := 40, locals := 71 } : Room)) (fun aA U => aA = #[(.ref o_), (.ref sb_), .null] ∧ Z.Warmed39 U.vm ∧ U.heap = h0) (fun _ _ _ _ _ => True) (fun _ U o U' => ∃ v L, o = .returned v ∧ Q_is34x Z o_ cn_ cs_ h0 n0 v U'.heap L ∧ FrameEnd U o U' L ({ frames := 3, cells := 1, slots := 40, locals := 71 } : Room).cells ({ frames := 3, cells := 1, slots := 40, locals := 71 } : Room).slots) := by
  refine MetFree.of_bodySF (plainFor_of_name own_pn_java_lang_String) hisR ?_
  intro p e s m args below meth c s₁ Bd hml0 hP hK
  obtain ⟨rfl, hZ, hh⟩ := hP
  have hx := Bd.exec
  have hby := Bd.bytes
  have hlk : meth.locks = false := BodyLoose.notSynchronized Bd
  have hml : c.maxLocals = 5 := hml0
  have hown : s.vm.findClass "java/lang/String" = some m.cls := findClass_of_methodNamed Bd.named
  have hnm := (name_of_methodNamed Bd.named Bd.method).1
  have X0 : Stand p l e ({ frames := 3, cells := 1, slots := 40, locals := 71 } : Room) s m #[(.ref o_), (.ref sb_), .null] below meth c s₁ [] 0 0 := Stand.of_body Bd
  have e0 : s₁.heap = h0 := by rw [← hh, Bd.state]; rfl
  have N0 := Fr.nil n0
  have K0 : Keep h0 h0 [o_] := Keep.refl _ _
  show oG p e below (own_K s (Q_is34x Z o_ cn_ cs_ h0 n0) ({ frames := 3, cells := 1, slots := 40, locals := 71 } : Room).cells ({ frames := 3, cells := 1, slots := 40, locals := 71 } : Room).slots) (s₁.setTop (entryFrame m #[(.ref o_), (.ref sb_), .null] 5))
  rw [(by first | (simp [entryFrame, mkF, argsToLocals, Value.category]; done) | rfl : entryFrame m #[(.ref o_), (.ref sb_), .null] 5 = mkF m 0 #[sR o_, sR sb_, .val .null, sU, sU] [])]
  show oG p e below _ (s₁.setTop (mkF m 0 #[sR o_, sR sb_, .val .null, sU, sU] []))
  refine og (fun _ hr => XS.aloadN X0.here hx rfl (hb hby dc26_0) rfl rfl hr) ?_
  show oG p e below _ (s₁.setTop (mkF m 1 #[sR o_, sR sb_, .val .null, sU, sU] [(.ref o_)]))
  obtain ⟨T1, X1, e1, st1⟩ := initO X0 hx hZ hown (hw _ (own_m 11 rfl)) (hw _ (own_m 12 rfl)) (hw _ (own_m 13 rfl)) e0 (g := (mkF m 1 #[sR o_, sR sb_, .val .null, sU, sU] [(.ref o_)])) rfl (by rw [hml]; rfl) rfl (hb hby dc26_1) (by decide) (W := 0) (by show 2 * 0 + _ ≤ _; exact Nat.le_of_eq rfl) (by decide)
  refine og st1 ?_
  show oG p e below _ (T1.setTop (mkF m 4 #[sR o_, sR sb_, .val .null, sU, sU] []))
  refine og (fun _ hr => XS.aloadN X1.here hx rfl (hb hby dc26_4) rfl rfl hr) ?_
  show oG p e below _ (T1.setTop (mkF m 5 #[sR o_, sR sb_, .val .null, sU, sU] [(.ref sb_)]))
  refine own_cv X1 hx hZ hown (notFace_of_selects (args := #[]) (mvT hZ (hw _ (own_m 155 rfl)))) (hw _ (own_m 152 rfl)) (hw _ (own_m 153 rfl)) (hw _ (own_m 155 rfl)) (hw _ (own_m 154 rfl)) (hw _ (own_m 56 rfl)) (hw _ (own_m 156 rfl)) (by decide) Eb_ (rm := { frames := 0, cells := 0, slots := 0, locals := 0 }) (rm_getValue_8 l Z a0 hw [] sb_ ar_ h0 n0 Z0 Vb_) (by decide) (W := 0) (by decide) (by decide) (by decide) e1 (by rw [hml]; rfl) (argsL := []) (lenOf own_pd19 rfl) (rest := []) rfl rfl (Nat.le_of_eq rfl) (hb hby dc26_5) ?_
  intro _ T2 L2 X2 hQ2
  obtain ⟨rfl, N2q, e2⟩ := hQ2
  have N2 := Fr.app N0 N2q
  show oG p e below _ (T2.setTop (mkF m 8 #[sR o_, sR sb_, .val .null, sU, sU] [(.ref ar_)]))
  refine og (fun _ hr => XS.astoreN X2.here hx rfl (hb hby dc26_8) rfl rfl (l' := #[sR o_, sR sb_, .val .null, sR ar_, sU]) rfl (XS.aloadN X2.here hx rfl (hb hby dc26_9) rfl rfl hr)) ?_
  show oG p e below _ (T2.setTop (mkF m 10 #[sR o_, sR sb_, .val .null, sR ar_, sU] [(.ref sb_)]))
  refine own_cv X2 hx hZ hown (own_nf (y := (⟨"java/lang/AbstractStringBuilder", "length", "()I"⟩ : MethodName)) (args := #[]) (mvT hZ (hw _ (own_m 92 rfl))) (mvT hZ (hw _ (own_m 90 rfl))) rfl) (hw _ (own_m 157 rfl)) (hw _ (own_m 158 rfl)) (hw _ (own_m 160 rfl)) (hw _ (own_m 161 rfl)) (hw _ (own_m 48 rfl)) (hw _ (own_m 162 rfl)) (by decide) Eb_ (rm := { frames := 1, cells := 0, slots := 0, locals := 12 }) (rm_length_10 l Z a0 hw [] sb_ cn_ h0 n0 Z0 Nb_ Eb_) (by decide) (W := 0) (by decide) (by decide) (by decide) e2 (by rw [hml]; rfl) (argsL := []) (lenOf own_pd1 rfl) (rest := []) rfl rfl (Nat.le_of_eq rfl) (hb hby dc26_10) ?_
  intro _ T3 L3 X3 hQ3
  obtain ⟨rfl, N3q, e3⟩ := hQ3
  have N3 := Fr.app N2 N3q
  show oG p e below _ (T3.setTop (mkF m 13 #[sR o_, sR sb_, .val .null, sR ar_, sU] [(.int cn_)]))
  refine og (fun _ hr => XS.istore X3.here hx rfl (hb hby dc26_13) rfl (l' := #[sR o_, sR sb_, .val .null, sR ar_, sI cn_]) rfl (XS.aloadN X3.here hx rfl (hb hby dc26_15) rfl rfl hr)) ?_
  show oG p e below _ (T3.setTop (mkF m 16 #[sR o_, sR sb_, .val .null, sR ar_, sI cn_] [(.ref sb_)]))
  refine own_cv X3 hx hZ hown (notFace_of_selects (args := #[]) (mvT hZ (hw _ (own_m 131 rfl)))) (hw _ (own_m 165 rfl)) (hw _ (own_m 129 rfl)) (hw _ (own_m 131 rfl)) (hw _ (own_m 130 rfl)) (hw _ (own_m 56 rfl)) (hw _ (own_m 132 rfl)) (by decide) Eb_ (rm := { frames := 0, cells := 0, slots := 0, locals := 0 }) (rm_isLatin1_6 l Z a0 hw [] sb_ i_COMPACT_STRINGS h0 n0 Z0 S_COMPACT_STRINGS Cb_ hs_COMPACT_STRINGS) (by decide) (W := 0) (by decide) (by decide) (by decide) e3 (by rw [hml]; rfl) (argsL := []) (lenOf own_pd15 rfl) (rest := []) rfl rfl (Nat.le_of_eq rfl) (hb hby dc26_16) ?_
  intro _ T4 L4 X4 hQ4
  obtain ⟨rfl, N4q, e4⟩ := hQ4
  have N4 := Fr.app N3 N4q
  show oG p e below _ (T4.setTop (mkF m 19 #[sR o_, sR sb_, .val .null, sR ar_, sI cn_] [(.int 1)]))
  refine og (fun _ hr => XS.ifNo X4.here hx rfl (hb hby dc26_19) rfl ((if0 _ _).trans (feq (by decide)).1) (XS.aloadN X4.here hx rfl (hb hby dc26_22) rfl rfl (XS.iconst X4.here hx rfl (hb hby dc26_23) hr))) ?_
  show oG p e below _ (T4.setTop (mkF m 24 #[sR o_, sR sb_, .val .null, sR ar_, sI cn_] [(.int 0), (.ref o_)]))
  obtain ⟨T5, h5, X5, e5, W5, st5⟩ := putFN X4 hx hZ hown (hw _ (own_m 26 rfl)) Via.refl e4 Co_ Eo_ (Or.inr ⟨(hw _ (own_m 27 rfl)), rfl, hnm⟩) (hw _ (own_m 2 rfl)) (ty := .byte) (v' := .int 0) (by decide) rfl (by decide) (g := (mkF m 24 #[sR o_, sR sb_, .val .null, sR ar_, sI cn_] [(.int 0), (.ref o_)])) rfl rfl (hb hby dc26_24)
  refine og st5 ?_
  have f6 := Co_.same W5
  have N7 := Fr.snoc X5 N4 geo_
  show oG p e below _ (T5.setTop (mkF m 27 #[sR o_, sR sb_, .val .null, sR ar_, sI cn_] []))
  refine og (fun _ hr => XS.aloadN X5.here hx rfl (hb hby dc26_27) rfl rfl (XS.aloadN X5.here hx rfl (hb hby dc26_28) rfl rfl (XS.iconst X5.here hx rfl (hb hby dc26_29) (XS.iload X5.here hx rfl (hb hby dc26_30) rfl hr)))) ?_
  show oG p e below _ (T5.setTop (mkF m 32 #[sR o_, sR sb_, .val .null, sR ar_, sI cn_] [(.int cn_), (.int 0), (.ref ar_), (.ref o_)]))
  have f9 := (Ka_.other W5 nao_)
  have f10 := (Ea_.wr W5)
  have Z11 := (Nat.le_trans Z0 (Nat.le_of_eq W5.size.symm))
  refine own_cs X5 hx hZ hown (hw _ (own_m 166 rfl)) (hw _ (own_m 167 rfl)) (hw _ (own_m 168 rfl)) (hw _ (own_m 169 rfl)) (by decide) (rm := { frames := 2, cells := 1, slots := 40, locals := 56 }) (rm_cr34x l Z a0 hw [] cn_ cs_ ar_ ka_ va_ h5 n0 Z11 f9 f10 hcn_ hhs_ hvl_ hfit_) (by decide) (W := 1) (by decide) (by decide) (by decide) e5 (by rw [hml]; rfl) (argsL := [(.ref ar_), (.int 0), (.int cn_)]) (lenOf own_pd18 rfl) (rest := [(.ref o_)]) rfl rfl (Nat.le_of_eq rfl) (hb hby dc26_32) ?_
  intro _ T8 L8 X8 hQ8
  obtain ⟨b8_0, kb8_0, rfl, N8q, K8, ge8_0, sz8_0, f8_0, f8_1⟩ := hQ8
  have N8 := Fr.app N7 N8q
  have K13 := (K0.wr W5 (Or.inl (List.mem_of_getElem? (i := 0) rfl)))
  have sz12 : h0.size ≤ b8_0 := Nat.le_trans K13.1 sz8_0
  show oG p e below _ (T8.setTop (mkF m 35 #[sR o_, sR sb_, .val .null, sR ar_, sI cn_] [(.ref b8_0), (.ref o_)]))
  have f14 := ((Eo_.wr W5).keep K8)
  have f15 := ((Vo_.other W5 (Or.inr (slot_ne (Or.inr (hw _ (own_m 29 rfl))) (Or.inr (hw _ (own_m 27 rfl))) (by decide) (t := (.array .byte)) (t' := .byte) (by decide) (by decide)))).keep K8 nin0)
  obtain ⟨T16, h16, X16, e16, W16, st16⟩ := putF X8 hx hZ hown (host := "") (Or.inl (hw _ (own_m 28 rfl))) Via.refl rfl f15 f14 (Or.inr ⟨(hw _ (own_m 29 rfl)), rfl, hnm⟩) (hw _ (own_m 2 rfl)) (ty := (.array .byte)) (by decide) rfl rfl (g := (mkF m 35 #[sR o_, sR sb_, .val .null, sR ar_, sI cn_] [(.ref b8_0), (.ref o_)])) rfl rfl (hb hby dc26_35)
  refine og st16 ?_
  have f17 := f15.same W16
  have N18 := Fr.snoc X16 N8 geo_
  show oG p e below _ (T16.setTop (mkF m 38 #[sR o_, sR sb_, .val .null, sR ar_, sI cn_] []))
  refine og (fun _ hr => XS.goto X16.here hx rfl (pc0 := 38) (pc' := 97) rfl (hb hby dc26_38) (by decide) (by decide) hr) ?_
  show oG p e below _ (T16.setTop (mkF m 97 #[sR o_, sR sb_, .val .null, sR ar_, sI cn_] []))
  have K19 := ((K13.trans K8 all0).wr W16 (Or.inl (List.mem_of_getElem? (i := 0) rfl)))
  have f20 := ((f6.keep K8 nin0).other W16 (Or.inr (slot_ne (Or.inr (hw _ (own_m 27 rfl))) (Or.inr (hw _ (own_m 29 rfl))) (by decide) (t := .byte) (t' := (.array .byte)) (by decide) (by decide))))
  have f21 := (f8_1.other W16 (Ne.symm (Nat.ne_of_lt (Nat.lt_of_lt_of_le (Eo_.wr W5).lt sz8_0))))
  exact own_ret0 X16 hx hlk Bd.returns (hb hby dc26_97) (by decide) (by decide) (by rw [e16]; exact ⟨b8_0, kb8_0, rfl, N18, K19, ge8_0, sz12, f20, f17, f21⟩)
def Q_it34x (Z : State) (o_ : Addr) (cn_ : Int32) (cs_ : List Int32) (h0 : Heap) (n0 : Nat) (v : Option Value) (h : Heap) (L : List Loc) : Prop := (∃ (b : Addr) (k : ClassId), v = none ∧ Fr n0 L ∧ Keep h0 h [o_] ∧ n0 ≤ b ∧ h0.size ≤ b ∧ Fld Z h o_ "java/lang/String" "coder" "B" (.int 0) ∧ Fld Z h o_ "java/lang/String" "value" "[B" (.ref b) ∧ Arv Z h b k .byte cn_ (own_lb cs_) (.int 0))
set_option maxRecDepth 65536 in
set_option maxHeartbeats 40000000 in
theorem rm_it34x (l : Launch) (Z : State) (a0 : Array Value) (hw : ∀ d ∈ tables_1, d.before a0 Z = true) (ws : List Jvm.Cond) (o_ : Addr) (sb_ : Addr) (cn_ : Int32) (cs_ : List Int32) (ar_ : Addr) (ka_ : ClassId) (va_ : List Value) (i_COMPACT_STRINGS : Int32) (h0 : Heap) (n0 : Nat) (Z0 : n0 ≤ h0.size) (Eo_ : Exa Z h0 o_ "java/lang/String") (Vo_ : Fld Z h0 o_ "java/lang/String" "value" "[B" .null) (Co_ : Fld Z h0 o_ "java/lang/String" "coder" "B" (.int 0)) (geo_ : n0 ≤ o_) (nbo_ : sb_ ≠ o_) (nao_ : ar_ ≠ o_) (Eb_ : Exa Z h0 sb_ "java/lang/StringBuilder") (Vb_ : Fld Z h0 sb_ "java/lang/AbstractStringBuilder" "value" "[B" (.ref ar_)) (Cb_ : Fld Z h0 sb_ "java/lang/AbstractStringBuilder" "coder" "B" (.int 0)) (Nb_ : Fld Z h0 sb_ "java/lang/AbstractStringBuilder" "count" "I" (.int cn_)) (Ka_ : Arv Z h0 ar_ ka_ .byte (34 : Int32) va_ (.int 0)) (Ea_ : Exa Z h0 ar_ "[B") (hcn_ : Int32.ofNat cs_.length = cn_) (hhs_ : own_hs va_ cs_) (hvl_ : va_.length = 34) (hfit_ : cs_.length ≤ 34) (S_COMPACT_STRINGS : Sta Z h0 "java/lang/String" "COMPACT_STRINGS" "Z" (.int i_COMPACT_STRINGS)) (hs_COMPACT_STRINGS : ¬ (i_COMPACT_STRINGS = (0 : Int32))) :
    MetFree l (⟨"java/lang/String", "<init>", "(Ljava/lang/StringBuilder;)V"⟩ : MethodName) (head1 (Jvm.Cond.code (⟨"java/lang/String", "<init>", "(Ljava/lang/StringBuilder;)V"⟩ : MethodName) jdk_42_method_53_code 2 none :: ws) ({ frames := 4, cells := 1, slots := 40, locals := 87 } : Room)) (fun aA U => aA = #[(.ref o_), (.ref sb_)] ∧ Z.Warmed39 U.vm ∧ U.heap = h0) (fun _ _ _ _ _ => True) (fun _ U o U' => ∃ v L, o = .returned v ∧ Q_it34x Z o_ cn_ cs_ h0 n0 v U'.heap L ∧ FrameEnd U o U' L ({ frames := 4, cells := 1, slots := 40, locals := 87 } : Room).cells ({ frames := 4, cells := 1, slots := 40, locals := 87 } : Room).slots) := by
  refine MetFree.of_bodySF (plainFor_of_name own_pn_java_lang_String) hisR ?_
  intro p e s m args below meth c s₁ Bd hml0 hP hK
  obtain ⟨rfl, hZ, hh⟩ := hP
  have hx := Bd.exec
  have hby := Bd.bytes
  have hlk : meth.locks = false := BodyLoose.notSynchronized Bd
  have hml : c.maxLocals = 2 := hml0
  have hown : s.vm.findClass "java/lang/String" = some m.cls := findClass_of_methodNamed Bd.named
  have hnm := (name_of_methodNamed Bd.named Bd.method).1
  have X0 : Stand p l e ({ frames := 4, cells := 1, slots := 40, locals := 87 } : Room) s m #[(.ref o_), (.ref sb_)] below meth c s₁ [] 0 0 := Stand.of_body Bd
  have e0 : s₁.heap = h0 := by rw [← hh, Bd.state]; rfl
  have N0 := Fr.nil n0
  have K0 : Keep h0 h0 [o_] := Keep.refl _ _
  show oG p e below (own_K s (Q_it34x Z o_ cn_ cs_ h0 n0) ({ frames := 4, cells := 1, slots := 40, locals := 87 } : Room).cells ({ frames := 4, cells := 1, slots := 40, locals := 87 } : Room).slots) (s₁.setTop (entryFrame m #[(.ref o_), (.ref sb_)] 2))
  rw [(by first | (simp [entryFrame, mkF, argsToLocals, Value.category]; done) | rfl : entryFrame m #[(.ref o_), (.ref sb_)] 2 = mkF m 0 #[sR o_, sR sb_] [])]
  show oG p e below _ (s₁.setTop (mkF m 0 #[sR o_, sR sb_] []))
  refine og (fun _ hr => XS.aloadN X0.here hx rfl (hb hby dc25_0) rfl rfl (XS.aloadN X0.here hx rfl (hb hby dc25_1) rfl rfl (XS.aconstNull X0.here hx rfl (hb hby dc25_2) hr))) ?_
  show oG p e below _ (s₁.setTop (mkF m 3 #[sR o_, sR sb_] [.null, (.ref sb_), (.ref o_)]))
  refine own_cp X0 hx hZ hown rfl (hw _ (own_m 149 rfl)) (hw _ (own_m 150 rfl)) (hw _ (own_m 3 rfl)) (hw _ (own_m 151 rfl)) (by decide) (rm := { frames := 3, cells := 1, slots := 40, locals := 71 }) (rm_is34x l Z a0 hw [] o_ sb_ cn_ cs_ ar_ ka_ va_ i_COMPACT_STRINGS h0 n0 Z0 Eo_ Vo_ Co_ geo_ nbo_ nao_ Eb_ Vb_ Cb_ Nb_ Ka_ Ea_ hcn_ hhs_ hvl_ hfit_ S_COMPACT_STRINGS hs_COMPACT_STRINGS) (by decide) (W := 0) (by decide) (by decide) (by decide) e0 (by rw [hml]; rfl) (argsL := [(.ref sb_), .null]) (lenOf own_pd20 rfl) (rest := []) rfl rfl (Nat.le_of_eq rfl) (hb hby dc25_3) ?_
  intro _ T1 L1 X1 hQ1
  obtain ⟨b1_0, kb1_0, rfl, N1q, K1, ge1_0, sz1_0, f1_0, f1_1, f1_2⟩ := hQ1
  have N1 := Fr.app N0 N1q
  have sz2 : h0.size ≤ b1_0 := Nat.le_trans K0.1 sz1_0
  show oG p e below _ (T1.setTop (mkF m 6 #[sR o_, sR sb_] []))
  have K3 := (K0.trans K1 (allS (Or.inl (List.mem_of_getElem? (i := 0) rfl)) all0))
  exact own_ret0 X1 hx hlk Bd.returns (hb hby dc25_6) (by decide) (by decide) (by exact ⟨b1_0, kb1_0, rfl, N1, K3, ge1_0, sz2, f1_0, f1_1, f1_2⟩)
def Q_ts34x (Z : State) (cn_ : Int32) (cs_ : List Int32) (h0 : Heap) (n0 : Nat) (v : Option Value) (h : Heap) (L : List Loc) : Prop := (∃ (a b : Addr) (k : ClassId), v = some (.ref a) ∧ Fr n0 L ∧ Keep h0 h [] ∧ n0 ≤ a ∧ h0.size ≤ a ∧ n0 ≤ b ∧ h0.size ≤ b ∧ a ≠ b ∧ Exa Z h a "java/lang/String" ∧ Fld Z h a "java/lang/String" "coder" "B" (.int 0) ∧ Fld Z h a "java/lang/String" "value" "[B" (.ref b) ∧ Arv Z h b k .byte cn_ (own_lb cs_) (.int 0))
set_option maxRecDepth 65536 in
set_option maxHeartbeats 40000000 in
theorem rm_ts34x (l : Launch) (Z : State) (a0 : Array Value) (hw : ∀ d ∈ tables_1, d.before a0 Z = true) (ws : List Jvm.Cond) (sb_ : Addr) (cn_ : Int32) (cs_ : List Int32) (ar_ : Addr) (ka_ : ClassId) (va_ : List Value) (i_COMPACT_STRINGS : Int32) (h0 : Heap) (n0 : Nat) (Z0 : n0 ≤ h0.size) (Eb_ : Exa Z h0 sb_ "java/lang/StringBuilder") (Vb_ : Fld Z h0 sb_ "java/lang/AbstractStringBuilder" "value" "[B" (.ref ar_)) (Cb_ : Fld Z h0 sb_ "java/lang/AbstractStringBuilder" "coder" "B" (.int 0)) (Nb_ : Fld Z h0 sb_ "java/lang/AbstractStringBuilder" "count" "I" (.int cn_)) (Ka_ : Arv Z h0 ar_ ka_ .byte (34 : Int32) va_ (.int 0)) (Ea_ : Exa Z h0 ar_ "[B") (hcn_ : Int32.ofNat cs_.length = cn_) (hhs_ : own_hs va_ cs_) (hvl_ : va_.length = 34) (hfit_ : cs_.length ≤ 34) (S_COMPACT_STRINGS : Sta Z h0 "java/lang/String" "COMPACT_STRINGS" "Z" (.int i_COMPACT_STRINGS)) (hs_COMPACT_STRINGS : ¬ (i_COMPACT_STRINGS = (0 : Int32))) :
    MetFree l (⟨"java/lang/StringBuilder", "toString", "()Ljava/lang/String;"⟩ : MethodName) (head1 (Jvm.Cond.code (⟨"java/lang/StringBuilder", "toString", "()Ljava/lang/String;"⟩ : MethodName) jdk_67_method_42_code 1 (some (.object "java/lang/String")) :: ws) ({ frames := 5, cells := 2, slots := 44, locals := 101 } : Room)) (fun aA U => aA = #[(.ref sb_)] ∧ Z.Warmed39 U.vm ∧ U.heap = h0) (fun _ _ _ _ _ => True) (fun _ U o U' => ∃ v L, o = .returned v ∧ Q_ts34x Z cn_ cs_ h0 n0 v U'.heap L ∧ FrameEnd U o U' L ({ frames := 5, cells := 2, slots := 44, locals := 101 } : Room).cells ({ frames := 5, cells := 2, slots := 44, locals := 101 } : Room).slots) := by
  refine MetFree.of_bodySF (plainFor_of_name own_pn_java_lang_StringBuilder) hisR ?_
  intro p e s m args below meth c s₁ Bd hml0 hP hK
  obtain ⟨rfl, hZ, hh⟩ := hP
  have hx := Bd.exec
  have hby := Bd.bytes
  have hlk : meth.locks = false := BodyLoose.notSynchronized Bd
  have hml : c.maxLocals = 1 := hml0
  have hown : s.vm.findClass "java/lang/StringBuilder" = some m.cls := findClass_of_methodNamed Bd.named
  have hnm := (name_of_methodNamed Bd.named Bd.method).1
  have X0 : Stand p l e ({ frames := 5, cells := 2, slots := 44, locals := 101 } : Room) s m #[(.ref sb_)] below meth c s₁ [] 0 0 := Stand.of_body Bd
  have e0 : s₁.heap = h0 := by rw [← hh, Bd.state]; rfl
  have N0 := Fr.nil n0
  have K0 : Keep h0 h0 [] := Keep.refl _ _
  show oG p e below (own_K s (Q_ts34x Z cn_ cs_ h0 n0) ({ frames := 5, cells := 2, slots := 44, locals := 101 } : Room).cells ({ frames := 5, cells := 2, slots := 44, locals := 101 } : Room).slots) (s₁.setTop (entryFrame m #[(.ref sb_)] 1))
  rw [(by first | (simp [entryFrame, mkF, argsToLocals, Value.category]; done) | rfl : entryFrame m #[(.ref sb_)] 1 = mkF m 0 #[sR sb_] [])]
  show oG p e below _ (s₁.setTop (mkF m 0 #[sR sb_] []))
  obtain ⟨T1, h1, X1, e1, E1, A1, D1, -, st1⟩ := newO X0 hx hZ hown (hw _ (own_m 145 rfl)) (hw _ (own_m 2 rfl)) (hw _ (own_m 3 rfl)) e0 (g := (mkF m 0 #[sR sb_] [])) rfl (hb hby dc24_0) (by decide) (by decide)
  obtain ⟨b1, g1⟩ : ∃ z, z = h0.size := ⟨_, rfl⟩
  rw [← g1] at A1 D1 st1
  have ge2 : n0 ≤ b1 := Nat.le_trans Z0 (Nat.le_of_eq g1.symm)
  have sz3 : h0.size ≤ b1 := Nat.le_trans K0.1 (Nat.le_of_eq g1.symm)
  refine og st1 ?_
  have f4 : Fld Z h1 b1 "java/lang/String" "coder" "B" (.int 0) := D1 (Or.inr (hw _ (own_m 27 rfl))) (ty := .byte) (by decide)
  have f5 : Fld Z h1 b1 "java/lang/String" "value" "[B" .null := D1 (Or.inr (hw _ (own_m 29 rfl))) (ty := (.array .byte)) (by decide)
  show oG p e below _ (T1.setTop (mkF m 3 #[sR sb_] [(.ref b1)]))
  refine og (fun _ hr => XS.dup X1.here hx rfl (hb hby dc24_3) rfl rfl (XS.aloadN X1.here hx rfl (hb hby dc24_4) rfl rfl hr)) ?_
  show oG p e below _ (T1.setTop (mkF m 5 #[sR sb_] [(.ref sb_), (.ref b1), (.ref b1)]))
  have f7 := (Eb_.ext E1)
  have f8 := (Vb_.ext E1)
  have f9 := (Cb_.ext E1)
  have f10 := (Nb_.ext E1)
  have f11 := (Ka_.ext E1)
  have f12 := (Ea_.ext E1)
  have f13 := (S_COMPACT_STRINGS.ext E1)
  have Z14 := (Nat.le_trans Z0 E1.1)
  refine own_cp X1 hx hZ hown rfl (hw _ (own_m 146 rfl)) (hw _ (own_m 147 rfl)) (hw _ (own_m 3 rfl)) (hw _ (own_m 148 rfl)) (by decide) (rm := { frames := 4, cells := 1, slots := 40, locals := 87 }) (rm_it34x l Z a0 hw [] b1 sb_ cn_ cs_ ar_ ka_ va_ i_COMPACT_STRINGS h1 n0 Z14 A1 f5 f4 ge2 (Nat.ne_of_lt (Nat.lt_of_lt_of_le Eb_.lt (Nat.le_of_eq g1.symm))) (Nat.ne_of_lt (Nat.lt_of_lt_of_le Ka_.lt (Nat.le_of_eq g1.symm))) f7 f8 f9 f10 f11 f12 hcn_ hhs_ hvl_ hfit_ f13 hs_COMPACT_STRINGS) (by decide) (W := 1) (by decide) (by decide) (by decide) e1 (by rw [hml]; rfl) (argsL := [(.ref sb_)]) (lenOf own_pd21 rfl) (rest := [(.ref b1)]) rfl rfl (Nat.le_of_eq rfl) (hb hby dc24_5) ?_
  intro _ T6 L6 X6 hQ6
  obtain ⟨b6_0, kb6_0, rfl, N6q, K6, ge6_0, sz6_0, f6_0, f6_1, f6_2⟩ := hQ6
  have N6 := Fr.app N0 N6q
  have K16 := (K0.ext E1)
  have sz15 : h0.size ≤ b6_0 := Nat.le_trans K16.1 sz6_0
  show oG p e below _ (T6.setTop (mkF m 8 #[sR sb_] [(.ref b1)]))
  have K17 := (K16.trans K6 (allS (Or.inr sz3) all0))
  have f18 := (A1.keep K6)
  exact own_retR X6 hx hlk Bd.returns rfl rfl (hb hby dc24_8) (by decide) (by decide) (by exact ⟨b1, b6_0, kb6_0, rfl, N6, K17, ge2, sz3, ge6_0, sz15, (Nat.ne_of_lt (Nat.lt_of_lt_of_le A1.lt sz6_0)), f18, f6_0, f6_1, f6_2⟩)
def own_tx0 : List Int32 := [108, 105, 110, 101, 32]
theorem own_hb0 : ∀ c ∈ own_tx0, ¬ c < 0 ∧ ¬ (65535 : Int32) < c := by decide +kernel
def own_tx1 : List Int32 := [58, 32]
theorem own_hb1 : ∀ c ∈ own_tx1, ¬ c < 0 ∧ ¬ (65535 : Int32) < c := by decide +kernel
theorem own_wN : ∀ (f n : Nat), n < 100 ^ f → 0 < f → n < 10 ^ Jvm.Free.SBG.wN f n ∧ (1 ≤ n → 10 ^ (Jvm.Free.SBG.wN f n - 1) ≤ n)
  | 0, _, _, h => absurd h (Nat.lt_irrefl 0)
  | f + 1, n, hn, _ => by
    simp only [Jvm.Free.SBG.wN]
    by_cases h1 : 100 ≤ n
    · rw [if_pos h1]
      have hf : 0 < f := by
        rcases Nat.eq_zero_or_pos f with q | q
        · subst q; simp at hn; omega
        · exact q
      have hd : n / 100 < 100 ^ f := Nat.div_lt_of_lt_mul (by rw [Nat.pow_succ, Nat.mul_comm] at hn; exact hn)
      obtain ⟨a, b⟩ := own_wN f (n / 100) hd hf
      have b' := b (by omega)
      generalize Jvm.Free.SBG.wN f (n / 100) = w at a b b'
      have hw : 1 ≤ w := by
        rcases Nat.eq_zero_or_pos w with q | q
        · subst q; simp at a; omega
        · exact q
      refine ⟨?_, fun _ => ?_⟩
      · rw [show 2 + w = w + 2 from by omega, Nat.pow_add]; have e : (10 : Nat) ^ 2 = 100 := rfl; rw [e]; omega
      · rw [show 2 + w - 1 = (w - 1) + 2 from by omega, Nat.pow_add]; have e : (10 : Nat) ^ 2 = 100 := rfl; rw [e]; omega
    · rw [if_neg h1]
      by_cases h2 : 9 < n
      · rw [if_pos h2]; exact ⟨by show n < 100; omega, fun _ => by show 10 ≤ n; omega⟩
      · rw [if_neg h2]; exact ⟨by show n < 10; omega, fun q => by show 1 ≤ n; exact q⟩
theorem own_dg {n : Nat} (h : n ≤ 2 ^ 63) : n < 10 ^ Jvm.Free.SBG.digitsL n ∧ (1 ≤ n → 10 ^ (Jvm.Free.SBG.digitsL n - 1) ≤ n) ∧ 1 ≤ Jvm.Free.SBG.digitsL n ∧ Jvm.Free.SBG.digitsL n ≤ 19 := by
  have e : (100 : Nat) ^ 10 = 100000000000000000000 := (by decide)
  obtain ⟨a, b⟩ := own_wN 10 n (by omega) (by decide)
  have p := (Jvm.Free.SBG.digitsL_pos n).1
  refine ⟨a, b, p, ?_⟩
  rcases Nat.lt_or_ge (Jvm.Free.SBG.digitsL n) 20 with q | q
  · omega
  · rcases Nat.eq_zero_or_pos n with r | r
    · subst r; exact absurd q (by decide)
    · have b' := b r
      have m : (10 : Nat) ^ 19 ≤ 10 ^ (Jvm.Free.SBG.digitsL n - 1) := Nat.pow_le_pow_right (by decide) (by omega)
      have e2 : (10 : Nat) ^ 19 = 10000000000000000000 := (by decide)
      change 10 ^ (Jvm.Free.SBG.digitsL n - 1) ≤ n at b'
      omega
theorem own_sg (x : Int64) : Jvm.Free.SBG.GetCharsL.sgnL x ≤ 1 := by unfold Jvm.Free.SBG.GetCharsL.sgnL; split <;> omega
theorem own_l0 : own_lb own_tx0 = [.int 108, .int 105, .int 110, .int 101, .int 32] := by first | rfl | decide +kernel
theorem own_l1 : own_lb own_tx1 = [.int 58, .int 32] := by first | rfl | decide +kernel
theorem own_c0 : StrChars.Road.CodA own_tx0 0 (5 : Int32) (own_lb own_tx0) := Or.inl ⟨rfl, by decide +kernel, rfl, by decide +kernel⟩
theorem own_c1 : StrChars.Road.CodA own_tx1 0 (2 : Int32) (own_lb own_tx1) := Or.inl ⟨rfl, by decide +kernel, rfl, by decide +kernel⟩
def own_msg (n : Nat) (x : Int64) (ds : List Int32) : List Int32 := (((([] : List Int32) ++ own_tx0) ++ own_dec n x) ++ own_tx1) ++ ds
theorem own_ccn {cs ds : List Int32} {x y : Int32} (hx : Int32.ofNat cs.length = x) (hy : Int32.ofNat ds.length = y) : Int32.ofNat (cs ++ ds).length = x + y := by rw [List.length_append]; exact own_add hx hy
theorem dc8_0 : decode prog_14_method_4_code 0 = .ok (.new 17, 3) := by decide +kernel
theorem dc8_3 : decode prog_14_method_4_code 3 = .ok (.dup, 1) := by decide +kernel
theorem dc8_4 : decode prog_14_method_4_code 4 = .ok (.invokespecial 19, 3) := by decide +kernel
theorem dc9_0 : decode jdk_67_method_1_code 0 = .ok (.aload_n 0, 1) := by decide +kernel
theorem dc9_1 : decode jdk_67_method_1_code 1 = .ok (.bipush 16, 2) := by decide +kernel
theorem dc9_3 : decode jdk_67_method_1_code 3 = .ok (.invokespecial 1, 3) := by decide +kernel
theorem dc10_0 : decode jdk_68_method_2_code 0 = .ok (.aload_n 0, 1) := by decide +kernel
theorem dc10_1 : decode jdk_68_method_2_code 1 = .ok (.invokespecial 3, 3) := by decide +kernel
theorem dc10_4 : decode jdk_68_method_2_code 4 = .ok (.getstatic 18, 3) := by decide +kernel
theorem dc10_7 : decode jdk_68_method_2_code 7 = .ok (.ifCond .eq 18, 3) := by decide +kernel
theorem dc10_10 : decode jdk_68_method_2_code 10 = .ok (.aload_n 0, 1) := by decide +kernel
theorem dc10_11 : decode jdk_68_method_2_code 11 = .ok (.iload_n 1, 1) := by decide +kernel
theorem dc10_12 : decode jdk_68_method_2_code 12 = .ok (.newarray .byte, 2) := by decide +kernel
theorem dc10_14 : decode jdk_68_method_2_code 14 = .ok (.putfield 15, 3) := by decide +kernel
theorem dc10_17 : decode jdk_68_method_2_code 17 = .ok (.aload_n 0, 1) := by decide +kernel
theorem dc10_18 : decode jdk_68_method_2_code 18 = .ok (.iconst 0, 1) := by decide +kernel
theorem dc10_19 : decode jdk_68_method_2_code 19 = .ok (.putfield 22, 3) := by decide +kernel
theorem dc10_22 : decode jdk_68_method_2_code 22 = .ok (.goto 16, 3) := by decide +kernel
theorem dc10_38 : decode jdk_68_method_2_code 38 = .ok (.return_, 1) := by decide +kernel
def Q_init_11 (Z : State) (o0 : Addr) (h0 : Heap) (n0 : Nat) (v : Option Value) (h : Heap) (L : List Loc) : Prop := (∃ (b3 : Addr) (k3 : ClassId), v = none ∧ Fr n0 L ∧ Keep h0 h [o0] ∧ n0 ≤ b3 ∧ h0.size ≤ b3 ∧ Fld Z h o0 "java/lang/AbstractStringBuilder" "coder" "B" (.int 0) ∧ Fld Z h o0 "java/lang/AbstractStringBuilder" "count" "I" (.int 0) ∧ Fld Z h o0 "java/lang/AbstractStringBuilder" "value" "[B" (.ref b3) ∧ Exa Z h b3 "[B" ∧ Arv Z h b3 k3 .byte (16 : Int32) [(.int 0), (.int 0), (.int 0), (.int 0), (.int 0), (.int 0), (.int 0), (.int 0), (.int 0), (.int 0), (.int 0), (.int 0), (.int 0), (.int 0), (.int 0), (.int 0)] (.int 0))
set_option maxRecDepth 65536 in
set_option maxHeartbeats 40000000 in
theorem rm_init_11 (l : Launch) (Z : State) (a0 : Array Value) (hw : ∀ d ∈ tables_1, d.before a0 Z = true) (ws : List Jvm.Cond) (o0 : Addr) (y0 : Int32) (h0 : Heap) (n0 : Nat) (Z0 : n0 ≤ h0.size) (P0 : Sta Z h0 "java/lang/String" "COMPACT_STRINGS" "Z" (.int y0)) (P1 : Exa Z h0 o0 "java/lang/StringBuilder") (P2 : Fld Z h0 o0 "java/lang/AbstractStringBuilder" "value" "[B" .null) (P3 : Fld Z h0 o0 "java/lang/AbstractStringBuilder" "coder" "B" (.int 0)) (P4 : Fld Z h0 o0 "java/lang/AbstractStringBuilder" "count" "I" (.int 0)) (ge0p : n0 ≤ o0) (hb0 : ¬ (y0 = (0 : Int32))) :
    MetFree l (⟨"java/lang/AbstractStringBuilder", "<init>", "(I)V"⟩ : MethodName) (head1 (Jvm.Cond.code (⟨"java/lang/AbstractStringBuilder", "<init>", "(I)V"⟩ : MethodName) jdk_68_method_2_code 2 none :: ws) ({ frames := 1, cells := 1, slots := 16, locals := 12 } : Room)) (fun aA U => aA = #[(.ref o0), (.int 16)] ∧ Z.Warmed39 U.vm ∧ U.heap = h0) (fun _ _ _ _ _ => True) (fun _ U o U' => ∃ v L, o = .returned v ∧ Q_init_11 Z o0 h0 n0 v U'.heap L ∧ FrameEnd U o U' L ({ frames := 1, cells := 1, slots := 16, locals := 12 } : Room).cells ({ frames := 1, cells := 1, slots := 16, locals := 12 } : Room).slots) := by
  refine MetFree.of_bodySF (plainFor_of_name own_pn_java_lang_AbstractStringBuilder) hisR ?_
  intro p e s m args below meth c s₁ Bd hml0 hP hK
  obtain ⟨rfl, hZ, hh⟩ := hP
  have hx := Bd.exec
  have hby := Bd.bytes
  have hlk : meth.locks = false := BodyLoose.notSynchronized Bd
  have hml : c.maxLocals = 2 := hml0
  have hown : s.vm.findClass "java/lang/AbstractStringBuilder" = some m.cls := findClass_of_methodNamed Bd.named
  have hnm := (name_of_methodNamed Bd.named Bd.method).1
  have X0 : Stand p l e ({ frames := 1, cells := 1, slots := 16, locals := 12 } : Room) s m #[(.ref o0), (.int 16)] below meth c s₁ [] 0 0 := Stand.of_body Bd
  have e0 : s₁.heap = h0 := by rw [← hh, Bd.state]; rfl
  have N0 := Fr.nil n0
  have K0 : Keep h0 h0 [o0] := Keep.refl _ _
  show oG p e below (own_K s (Q_init_11 Z o0 h0 n0) ({ frames := 1, cells := 1, slots := 16, locals := 12 } : Room).cells ({ frames := 1, cells := 1, slots := 16, locals := 12 } : Room).slots) (s₁.setTop (entryFrame m #[(.ref o0), (.int 16)] 2))
  rw [(by first | (simp [entryFrame, mkF, argsToLocals, Value.category]; done) | rfl : entryFrame m #[(.ref o0), (.int 16)] 2 = mkF m 0 #[sR o0, sI 16] [])]
  show oG p e below _ (s₁.setTop (mkF m 0 #[sR o0, sI 16] []))
  refine og (fun _ hr => XS.aloadN X0.here hx rfl (hb hby dc10_0) rfl rfl hr) ?_
  show oG p e below _ (s₁.setTop (mkF m 1 #[sR o0, sI 16] [(.ref o0)]))
  obtain ⟨T1, X1, e1, st1⟩ := initO X0 hx hZ hown (hw _ (own_m 58 rfl)) (hw _ (own_m 12 rfl)) (hw _ (own_m 13 rfl)) e0 (g := (mkF m 1 #[sR o0, sI 16] [(.ref o0)])) rfl (by rw [hml]; rfl) rfl (hb hby dc10_1) (by decide) (W := 0) (by show 2 * 0 + _ ≤ _; exact Nat.le_of_eq rfl) (by decide)
  refine og st1 ?_
  show oG p e below _ (T1.setTop (mkF m 4 #[sR o0, sI 16] []))
  obtain ⟨T2, X2, e2, st2⟩ := getS2 X1 hx hZ hown (host := "") (Or.inl (hw _ (own_m 59 rfl))) Via.refl e1 P0 (g := (mkF m 4 #[sR o0, sI 16] [])) rfl (hb hby dc10_4)
  refine og st2 ?_
  show oG p e below _ (T2.setTop (mkF m 7 #[sR o0, sI 16] [(.int y0)]))
  refine og (fun _ hr => XS.ifNo X2.here hx rfl (hb hby dc10_7) rfl ((if0 _ _).trans (feq hb0).1) hr) ?_
  show oG p e below _ (T2.setTop (mkF m 10 #[sR o0, sI 16] []))
  refine og (fun _ hr => XS.aloadN X2.here hx rfl (hb hby dc10_10) rfl rfl (XS.iloadN X2.here hx rfl (hb hby dc10_11) rfl hr)) ?_
  show oG p e below _ (T2.setTop (mkF m 12 #[sR o0, sI 16] [(.int 16), (.ref o0)]))
  obtain ⟨T3, h3, k3, X3, e3, E3, A3, EA3, st3⟩ := newPE X2 hx hZ (hw _ (own_m 19 rfl)) e2 (g := (mkF m 12 #[sR o0, sI 16] [(.int 16), (.ref o0)])) rfl (hb hby dc10_12) rfl (by decide) (cap := 16) (by decide) (by decide) (by decide) (by decide) (ad := "[B") (by decide)
  obtain ⟨b3, g3⟩ : ∃ z, z = h0.size := ⟨_, rfl⟩
  rw [← g3] at A3 EA3 st3
  have ge4 : n0 ≤ b3 := Nat.le_trans Z0 (Nat.le_of_eq g3.symm)
  have sz5 : h0.size ≤ b3 := Nat.le_trans K0.1 (Nat.le_of_eq g3.symm)
  refine og st3 ?_
  have f6 : Arv Z h3 b3 k3 .byte (16 : Int32) [(.int 0), (.int 0), (.int 0), (.int 0), (.int 0), (.int 0), (.int 0), (.int 0), (.int 0), (.int 0), (.int 0), (.int 0), (.int 0), (.int 0), (.int 0), (.int 0)] (.int 0) := (Arv.new A3 (by decide)).pad (pad_rep [] (.int 0) 16)
  show oG p e below _ (T3.setTop (mkF m 14 #[sR o0, sI 16] [(.ref b3), (.ref o0)]))
  have f7 := (P1.ext E3)
  have f8 := (P2.ext E3)
  obtain ⟨T9, h9, X9, e9, W9, st9⟩ := putF X3 hx hZ hown (host := "") (Or.inl (hw _ (own_m 60 rfl))) Via.refl e3 f8 f7 (Or.inl (hw _ (own_m 61 rfl))) (hw _ (own_m 47 rfl)) (ty := (.array .byte)) (by decide) rfl rfl (g := (mkF m 14 #[sR o0, sI 16] [(.ref b3), (.ref o0)])) rfl rfl (hb hby dc10_14)
  refine og st9 ?_
  have f10 := f8.same W9
  have N11 := Fr.snoc X9 N0 ge0p
  show oG p e below _ (T9.setTop (mkF m 17 #[sR o0, sI 16] []))
  refine og (fun _ hr => XS.aloadN X9.here hx rfl (hb hby dc10_17) rfl rfl (XS.iconst X9.here hx rfl (hb hby dc10_18) hr)) ?_
  show oG p e below _ (T9.setTop (mkF m 19 #[sR o0, sI 16] [(.int 0), (.ref o0)]))
  have f12 := (f7.wr W9)
  have f13 := ((P3.ext E3).other W9 (Or.inr (slot_ne (Or.inl (hw _ (own_m 63 rfl))) (Or.inl (hw _ (own_m 61 rfl))) (by decide) (t := .byte) (t' := (.array .byte)) (by decide) (by decide))))
  obtain ⟨T14, h14, X14, e14, W14, st14⟩ := putFN X9 hx hZ hown (hw _ (own_m 62 rfl)) Via.refl e9 f13 f12 (Or.inl (hw _ (own_m 63 rfl))) (hw _ (own_m 47 rfl)) (ty := .byte) (v' := .int 0) (by decide) rfl (by decide) (g := (mkF m 19 #[sR o0, sI 16] [(.int 0), (.ref o0)])) rfl rfl (hb hby dc10_19)
  refine og st14 ?_
  have f15 := f13.same W14
  have N16 := Fr.snoc X14 N11 ge0p
  show oG p e below _ (T14.setTop (mkF m 22 #[sR o0, sI 16] []))
  refine og (fun _ hr => XS.goto X14.here hx rfl (pc0 := 22) (pc' := 38) rfl (hb hby dc10_22) (by decide) (by decide) hr) ?_
  show oG p e below _ (T14.setTop (mkF m 38 #[sR o0, sI 16] []))
  have f17 := (((P4.ext E3).other W9 (Or.inr (slot_ne (Or.inl (hw _ (own_m 88 rfl))) (Or.inl (hw _ (own_m 61 rfl))) (by decide) (t := .int) (t' := (.array .byte)) (by decide) (by decide)))).other W14 (Or.inr (slot_ne (Or.inl (hw _ (own_m 88 rfl))) (Or.inl (hw _ (own_m 63 rfl))) (by decide) (t := .int) (t' := .byte) (by decide) (by decide))))
  have f18 := (f10.other W14 (Or.inr (slot_ne (Or.inl (hw _ (own_m 61 rfl))) (Or.inl (hw _ (own_m 63 rfl))) (by decide) (t := (.array .byte)) (t' := .byte) (by decide) (by decide))))
  have f19 := ((EA3.wr W9).wr W14)
  have f20 := ((f6.other W9 (Ne.symm (Nat.ne_of_lt (Nat.lt_of_lt_of_le P1.lt (Nat.le_of_eq g3.symm))))).other W14 (Ne.symm (Nat.ne_of_lt (Nat.lt_of_lt_of_le P1.lt (Nat.le_of_eq g3.symm)))))
  have K21 := (((K0.ext E3).wr W9 (Or.inl (List.mem_of_getElem? (i := 0) rfl))).wr W14 (Or.inl (List.mem_of_getElem? (i := 0) rfl)))
  exact own_ret0 X14 hx hlk Bd.returns (hb hby dc10_38) (by decide) (by decide) (by rw [e14]; exact ⟨b3, k3, rfl, N16, K21, ge4, sz5, f15, f17, f18, f19, f20⟩)
theorem dc9_6 : decode jdk_67_method_1_code 6 = .ok (.return_, 1) := by decide +kernel
def Q_init_12 (Z : State) (o0 : Addr) (h0 : Heap) (n0 : Nat) (v : Option Value) (h : Heap) (L : List Loc) : Prop := (∃ (b1_0 : Addr) (kb1_0 : ClassId), v = none ∧ Fr n0 L ∧ Keep h0 h [o0] ∧ n0 ≤ b1_0 ∧ h0.size ≤ b1_0 ∧ Fld Z h o0 "java/lang/AbstractStringBuilder" "coder" "B" (.int 0) ∧ Fld Z h o0 "java/lang/AbstractStringBuilder" "count" "I" (.int 0) ∧ Fld Z h o0 "java/lang/AbstractStringBuilder" "value" "[B" (.ref b1_0) ∧ Exa Z h b1_0 "[B" ∧ Arv Z h b1_0 kb1_0 .byte (16 : Int32) [(.int 0), (.int 0), (.int 0), (.int 0), (.int 0), (.int 0), (.int 0), (.int 0), (.int 0), (.int 0), (.int 0), (.int 0), (.int 0), (.int 0), (.int 0), (.int 0)] (.int 0))
set_option maxRecDepth 65536 in
set_option maxHeartbeats 40000000 in
theorem rm_init_12 (l : Launch) (Z : State) (a0 : Array Value) (hw : ∀ d ∈ tables_1, d.before a0 Z = true) (ws : List Jvm.Cond) (o0 : Addr) (y0 : Int32) (h0 : Heap) (n0 : Nat) (Z0 : n0 ≤ h0.size) (P0 : Sta Z h0 "java/lang/String" "COMPACT_STRINGS" "Z" (.int y0)) (P1 : Exa Z h0 o0 "java/lang/StringBuilder") (P2 : Fld Z h0 o0 "java/lang/AbstractStringBuilder" "value" "[B" .null) (P3 : Fld Z h0 o0 "java/lang/AbstractStringBuilder" "coder" "B" (.int 0)) (P4 : Fld Z h0 o0 "java/lang/AbstractStringBuilder" "count" "I" (.int 0)) (ge0p : n0 ≤ o0) (hb0 : ¬ (y0 = (0 : Int32))) :
    MetFree l (⟨"java/lang/StringBuilder", "<init>", "()V"⟩ : MethodName) (head1 (Jvm.Cond.code (⟨"java/lang/StringBuilder", "<init>", "()V"⟩ : MethodName) jdk_67_method_1_code 1 none :: ws) ({ frames := 2, cells := 1, slots := 16, locals := 25 } : Room)) (fun aA U => aA = #[(.ref o0)] ∧ Z.Warmed39 U.vm ∧ U.heap = h0) (fun _ _ _ _ _ => True) (fun _ U o U' => ∃ v L, o = .returned v ∧ Q_init_12 Z o0 h0 n0 v U'.heap L ∧ FrameEnd U o U' L ({ frames := 2, cells := 1, slots := 16, locals := 25 } : Room).cells ({ frames := 2, cells := 1, slots := 16, locals := 25 } : Room).slots) := by
  refine MetFree.of_bodySF (plainFor_of_name own_pn_java_lang_StringBuilder) hisR ?_
  intro p e s m args below meth c s₁ Bd hml0 hP hK
  obtain ⟨rfl, hZ, hh⟩ := hP
  have hx := Bd.exec
  have hby := Bd.bytes
  have hlk : meth.locks = false := BodyLoose.notSynchronized Bd
  have hml : c.maxLocals = 1 := hml0
  have hown : s.vm.findClass "java/lang/StringBuilder" = some m.cls := findClass_of_methodNamed Bd.named
  have hnm := (name_of_methodNamed Bd.named Bd.method).1
  have X0 : Stand p l e ({ frames := 2, cells := 1, slots := 16, locals := 25 } : Room) s m #[(.ref o0)] below meth c s₁ [] 0 0 := Stand.of_body Bd
  have e0 : s₁.heap = h0 := by rw [← hh, Bd.state]; rfl
  have N0 := Fr.nil n0
  have K0 : Keep h0 h0 [o0] := Keep.refl _ _
  show oG p e below (own_K s (Q_init_12 Z o0 h0 n0) ({ frames := 2, cells := 1, slots := 16, locals := 25 } : Room).cells ({ frames := 2, cells := 1, slots := 16, locals := 25 } : Room).slots) (s₁.setTop (entryFrame m #[(.ref o0)] 1))
  rw [(by first | (simp [entryFrame, mkF, argsToLocals, Value.category]; done) | rfl : entryFrame m #[(.ref o0)] 1 = mkF m 0 #[sR o0] [])]
  show oG p e below _ (s₁.setTop (mkF m 0 #[sR o0] []))
  refine og (fun _ hr => XS.aloadN X0.here hx rfl (hb hby dc9_0) rfl rfl (XS.bipush X0.here hx rfl (hb hby dc9_1) hr)) ?_
  show oG p e below _ (s₁.setTop (mkF m 3 #[sR o0] [(.int 16), (.ref o0)]))
  refine own_cp X0 hx hZ hown rfl (hw _ (own_m 52 rfl)) (hw _ (own_m 53 rfl)) (hw _ (own_m 56 rfl)) (hw _ (own_m 57 rfl)) (by decide) (rm := { frames := 1, cells := 1, slots := 16, locals := 12 }) (rm_init_11 l Z a0 hw [] o0 y0 h0 n0 Z0 P0 P1 P2 P3 P4 ge0p hb0) (by decide) (W := 0) (by decide) (by decide) (by decide) e0 (by rw [hml]; rfl) (argsL := [(.int 16)]) (lenOf own_pd12 rfl) (rest := []) rfl rfl (Nat.le_of_eq rfl) (hb hby dc9_3) ?_
  intro _ T1 L1 X1 hQ1
  obtain ⟨b1_0, kb1_0, rfl, N1q, K1, ge1_0, sz1_0, f1_0, f1_1, f1_2, f1_3, f1_4⟩ := hQ1
  have N1 := Fr.app N0 N1q
  have sz2 : h0.size ≤ b1_0 := Nat.le_trans K0.1 sz1_0
  show oG p e below _ (T1.setTop (mkF m 6 #[sR o0] []))
  have K3 := (K0.trans K1 (allS (Or.inl (List.mem_of_getElem? (i := 0) rfl)) all0))
  exact own_ret0 X1 hx hlk Bd.returns (hb hby dc9_6) (by decide) (by decide) (by exact ⟨b1_0, kb1_0, rfl, N1, K3, ge1_0, sz2, f1_0, f1_1, f1_2, f1_3, f1_4⟩)
theorem own_pd22 : parseMethodDescriptor "()V" = some ⟨[], none⟩ := by decide +kernel
theorem dc8_7 : decode prog_14_method_4_code 7 = .ok (.ldc 20, 2) := by decide +kernel
theorem dc8_9 : decode prog_14_method_4_code 9 = .ok (.invokevirtual 22, 3) := by decide +kernel
theorem own_pd23 : parseMethodDescriptor "(Ljava/lang/String;)Ljava/lang/StringBuilder;" = some ⟨[(.object "java/lang/String")], some (.object "java/lang/StringBuilder")⟩ := by decide +kernel
theorem dc8_12 : decode prog_14_method_4_code 12 = .ok (.aload_n 0, 1) := by decide +kernel
theorem dc8_13 : decode prog_14_method_4_code 13 = .ok (.getfield 7, 3) := by decide +kernel
theorem dc8_16 : decode prog_14_method_4_code 16 = .ok (.invokevirtual 26, 3) := by decide +kernel
theorem own_pd24 : parseMethodDescriptor "(J)Ljava/lang/StringBuilder;" = some ⟨[.long], some (.object "java/lang/StringBuilder")⟩ := by decide +kernel
theorem dc8_19 : decode prog_14_method_4_code 19 = .ok (.ldc 29, 2) := by decide +kernel
theorem dc8_21 : decode prog_14_method_4_code 21 = .ok (.invokevirtual 22, 3) := by decide +kernel
theorem dc8_24 : decode prog_14_method_4_code 24 = .ok (.aload_n 0, 1) := by decide +kernel
theorem dc8_25 : decode prog_14_method_4_code 25 = .ok (.getfield 13, 3) := by decide +kernel
theorem dc8_28 : decode prog_14_method_4_code 28 = .ok (.invokevirtual 22, 3) := by decide +kernel
theorem dc8_31 : decode prog_14_method_4_code 31 = .ok (.invokevirtual 31, 3) := by decide +kernel
theorem own_pd25 : parseMethodDescriptor "()Ljava/lang/String;" = some ⟨[], some (.object "java/lang/String")⟩ := by decide +kernel
theorem dc8_34 : decode prog_14_method_4_code 34 = .ok (.areturn, 1) := by decide +kernel
theorem own_pn_com_example_strict_tariff_stricttariff_pricing_RefusedReading : plainName "com/example/strict_tariff/stricttariff/pricing/RefusedReading" = true := by first | (simp [plainName, overriddenIn]; done) | decide +kernel
def Q_msg (Z : State) (ds_ : List Int32) (x_ : Int64) (nN_ : Nat) (h0 : Heap) (n0 : Nat) (v : Option Value) (h : Heap) (L : List Loc) : Prop := (∃ (a b : Addr) (k : ClassId), v = some (.ref a) ∧ Fr n0 L ∧ Keep h0 h [] ∧ n0 ≤ a ∧ h0.size ≤ a ∧ Exa Z h a "java/lang/String" ∧ Fld Z h a "java/lang/String" "coder" "B" (.int 0) ∧ Fld Z h a "java/lang/String" "value" "[B" (.ref b) ∧ Arv Z h b k .byte (Int32.ofNat (own_msg nN_ x_ ds_).length) (own_lb (own_msg nN_ x_ ds_)) (.int 0))
set_option maxRecDepth 65536 in
set_option maxHeartbeats 40000000 in
theorem rm_msg (l : Launch) (Z : State) (a0 : Array Value) (hw : ∀ d ∈ tables_1, d.before a0 Z = true) (ws : List Jvm.Cond) (rr_ : Addr) (s_ : Addr) (t_ : Addr) (kt_ : ClassId) (nn_ : Int32) (ds_ : List Int32) (x_ : Int64) (nN_ : Nat) (ist_ : Addr) (da_ : Addr) (db_ : Addr) (Da_ : Cell) (Db_ : Cell) (i_COMPACT_STRINGS : Int32) (h0 : Heap) (n0 : Nat) (Z0 : n0 ≤ h0.size) (Er_ : Exa Z h0 rr_ "com/example/strict_tariff/stricttariff/pricing/RefusedReading") (Lr_ : Fld Z h0 rr_ "com/example/strict_tariff/stricttariff/pricing/RefusedReading" "line" "J" (.long x_)) (Rr_ : Fld Z h0 rr_ "com/example/strict_tariff/stricttariff/pricing/RefusedReading" "reason" "Ljava/lang/String;" (.ref s_)) (Es_ : Exa Z h0 s_ "java/lang/String") (Cs_ : Fld Z h0 s_ "java/lang/String" "coder" "B" (.int 0)) (Vs_ : Fld Z h0 s_ "java/lang/String" "value" "[B" (.ref t_)) (Kt_ : Arv Z h0 t_ kt_ .byte nn_ (own_lb ds_) (.int 0)) (hnn_ : Int32.ofNat ds_.length = nn_) (hdl3_ : ds_.length ≤ 3) (hcd_ : StrChars.Road.CodA ds_ 0 nn_ (own_lb ds_)) (hbx_ : ∀ c ∈ ds_, ¬ c < 0 ∧ ¬ (65535 : Int32) < c) (hn63_ : nN_ ≤ 2 ^ 63) (hng_ : (if x_ < 0 then x_ else -x_) = Jvm.Free.SBG.negL nN_) (Td_ : own_T Z h0 ist_ da_ db_ Da_ Db_) (htn_ : ist_ < n0 ∧ da_ < n0 ∧ db_ < n0) (S_COMPACT_STRINGS : Sta Z h0 "java/lang/String" "COMPACT_STRINGS" "Z" (.int i_COMPACT_STRINGS)) (hs_COMPACT_STRINGS : ¬ (i_COMPACT_STRINGS = (0 : Int32))) :
    MetFree l (⟨"com/example/strict_tariff/stricttariff/pricing/RefusedReading", "message", "()Ljava/lang/String;"⟩ : MethodName) (head1 (Jvm.Cond.code (⟨"com/example/strict_tariff/stricttariff/pricing/RefusedReading", "message", "()Ljava/lang/String;"⟩ : MethodName) prog_14_method_4_code 1 (some (.object "java/lang/String")) :: ws) ({ frames := 6, cells := 9, slots := 134, locals := 132 } : Room)) (fun aA U => aA = #[(.ref rr_)] ∧ Z.Warmed39 U.vm ∧ U.heap = h0 ∧ CHv Z own_EL U.vm h0) (fun _ _ _ _ _ => True) (fun _ U o U' => ∃ v L, o = .returned v ∧ Q_msg Z ds_ x_ nN_ h0 n0 v U'.heap L ∧ CHr Z own_EL U.vm U.heap U'.vm U'.heap ∧ ReturnedEndW U o U' L ({ frames := 6, cells := 9, slots := 134, locals := 132 } : Room).cells ({ frames := 6, cells := 9, slots := 134, locals := 132 } : Room).slots) := by
  refine MetFree.of_bodySF (plainFor_of_name own_pn_com_example_strict_tariff_stricttariff_pricing_RefusedReading) hisR ?_
  intro p e s m args below meth c s₁ Bd hml0 hP hK
  obtain ⟨rfl, hZ, hh, hC0⟩ := hP
  have hx := Bd.exec
  have hby := Bd.bytes
  have hlk : meth.locks = false := BodyLoose.notSynchronized Bd
  have hml : c.maxLocals = 1 := hml0
  have hown : s.vm.findClass "com/example/strict_tariff/stricttariff/pricing/RefusedReading" = some m.cls := findClass_of_methodNamed Bd.named
  have hnm := (name_of_methodNamed Bd.named Bd.method).1
  have X0 : Stand p l e ({ frames := 6, cells := 9, slots := 134, locals := 132 } : Room) (s.setVm s.vm) m #[(.ref rr_)] below meth c s₁ [] 0 0 := Stand.of_body Bd
  have e0 : s₁.heap = h0 := by rw [← hh, Bd.state]; rfl
  have N0 := Fr.nil n0
  have hS : s.Since s.vm 0 := (State.WarmedH.refl s).since 0
  have hk := Nat.zero_le h0.size
  have hEL : EW Z a0 own_EL := own_ew hw
  have A0 : CHr Z own_EL s.vm h0 s.vm h0 := CHr.refl hC0
  have K0 : Keep h0 h0 [] := Keep.refl _ _
  show oG p e below (own_KW Z own_EL s (Q_msg Z ds_ x_ nN_ h0 n0) ({ frames := 6, cells := 9, slots := 134, locals := 132 } : Room).cells ({ frames := 6, cells := 9, slots := 134, locals := 132 } : Room).slots) (s₁.setTop (entryFrame m #[(.ref rr_)] 1))
  rw [(by first | (simp [entryFrame, mkF, argsToLocals, Value.category]; done) | rfl : entryFrame m #[(.ref rr_)] 1 = mkF m 0 #[sR rr_] [])]
  show oG p e below _ (s₁.setTop (mkF m 0 #[sR rr_] []))
  obtain ⟨T1, h1, X1, e1, E1, A1, D1, -, st1⟩ := newO X0 hx hZ hown (hw _ (own_m 46 rfl)) (hw _ (own_m 47 rfl)) (hw _ (own_m 48 rfl)) e0 (g := (mkF m 0 #[sR rr_] [])) rfl (hb hby dc8_0) (by decide) (by decide)
  obtain ⟨b1, g1⟩ : ∃ z, z = h0.size := ⟨_, rfl⟩
  rw [← g1] at A1 D1 st1
  have ge2 : n0 ≤ b1 := Nat.le_trans Z0 (Nat.le_of_eq g1.symm)
  have sz3 : h0.size ≤ b1 := Nat.le_trans K0.1 (Nat.le_of_eq g1.symm)
  refine og st1 ?_
  have f4 : Fld Z h1 b1 "java/lang/AbstractStringBuilder" "value" "[B" .null := D1 (Or.inl (hw _ (own_m 61 rfl))) (ty := (.array .byte)) (by decide)
  have f5 : Fld Z h1 b1 "java/lang/AbstractStringBuilder" "coder" "B" (.int 0) := D1 (Or.inl (hw _ (own_m 63 rfl))) (ty := .byte) (by decide)
  have f6 : Fld Z h1 b1 "java/lang/AbstractStringBuilder" "count" "I" (.int 0) := D1 (Or.inl (hw _ (own_m 88 rfl))) (ty := .int) (by decide)
  show oG p e below _ (T1.setTop (mkF m 3 #[sR rr_] [(.ref b1)]))
  refine og (fun _ hr => XS.dup X1.here hx rfl (hb hby dc8_3) rfl rfl hr) ?_
  show oG p e below _ (T1.setTop (mkF m 4 #[sR rr_] [(.ref b1), (.ref b1)]))
  have f8 := (S_COMPACT_STRINGS.ext E1)
  have Z9 := (Nat.le_trans Z0 E1.1)
  refine own_cp X1 hx hZ hown rfl (hw _ (own_m 49 rfl)) (hw _ (own_m 50 rfl)) (hw _ (own_m 48 rfl)) (hw _ (own_m 51 rfl)) (by decide) (rm := { frames := 2, cells := 1, slots := 16, locals := 25 }) (rm_init_12 l Z a0 hw [] b1 i_COMPACT_STRINGS h1 n0 Z9 f8 A1 f4 f5 f6 ge2 hs_COMPACT_STRINGS) (by decide) (W := 1) (by decide) (by decide) (by decide) e1 (by rw [hml]; rfl) (argsL := []) (lenOf own_pd22 rfl) (rest := [(.ref b1)]) rfl rfl (Nat.le_of_eq rfl) (hb hby dc8_4) ?_
  intro _ T7 L7 X7 hQ7
  obtain ⟨b7_0, kb7_0, rfl, N7q, K7, ge7_0, sz7_0, f7_0, f7_1, f7_2, f7_3, f7_4⟩ := hQ7
  have N7 := Fr.app N0 N7q
  have K11 := (K0.ext E1)
  have sz10 : h0.size ≤ b7_0 := Nat.le_trans K11.1 sz7_0
  show oG p e below _ (T7.setTop (mkF m 7 #[sR rr_] [(.ref b1)]))
  have A13 := A0.trans (CHr.ext E1 A0.1)
  have sf15 := (Safe.ext E1 A0.1 (Safe.new (Nat.le_of_eq g1.symm)))
  have A14 := A13.trans (CHr.keep K7 (sfS sf15 sf0) A13.1)
  have hk16 := (Nat.le_trans (Nat.le_trans hk E1.1) K7.1)
  have hZo17 := hZ
  obtain ⟨a12, T12, h12, k112, b12, k12, X12, e12, E12, hS, hk12, hZ, hown, EA12, FC12, FV12, AV12, -, -, Al12, -, ne12, st12⟩ := ldcCH X7 hx hZ hown (hw _ (own_m 64 rfl)) (own_ws hw) rfl hS hk16 hEL (by simp [own_EL]) A14.1 (vs := [(.int 108), (.int 105), (.int 110), (.int 101), (.int 32)]) (z := (5 : Int32)) ⟨by decide, by decide⟩ (by decide) (by decide) (g := (mkF m 7 #[sR rr_] [(.ref b1)])) rfl (hb hby dc8_7) (n := 20) (by decide) (by decide) (by decide) (by decide)
  refine og st12 ?_
  show oG p e below _ (T12.setTop (mkF m 9 #[sR rr_] [(.ref a12), (.ref b1)]))
  have f18 : Arv Z h12 b12 k12 .byte (5 : Int32) (own_lb own_tx0) (.int 0) := by rw [own_l0]; exact AV12
  have f20 := ((A1.keep K7).ext E12)
  have f21 := (f7_2.ext E12)
  have f22 := (f7_0.ext E12)
  have f23 := (f7_1.ext E12)
  have f24 := (f7_4.ext E12)
  have sf25 := (Al12.safe f7_3.lt (Safe.keep K7 (sfS sf15 sf0) A13.1 (Safe.new sz7_0)))
  have sf26 := (Al12.safe (A1.keep K7).lt (Safe.keep K7 (sfS sf15 sf0) A13.1 sf15))
  have f27 := ((own_sta_keep f8 K7 (allS (own_ns_exa A1) all0)).ext E12)
  have Z28 := (Nat.le_trans (Nat.le_trans Z9 K7.1) E12.1)
  refine own_cv X12 hx hZ hown (notFace_of_selects (args := #[]) (mvT hZ (hw _ (own_m 70 rfl)))) (hw _ (own_m 67 rfl)) (hw _ (own_m 68 rfl)) (hw _ (own_m 70 rfl)) (hw _ (own_m 69 rfl)) (hw _ (own_m 48 rfl)) (hw _ (own_m 71 rfl)) (by decide) f20 (rm := { frames := 4, cells := 0, slots := 0, locals := 83 }) (rm_san l Z a0 hw [] b1 (0 : Int32) ([] : List Int32) a12 b12 k12 (5 : Int32) own_tx0 b7_0 kb7_0 (16 : Int32) [(.int 0), (.int 0), (.int 0), (.int 0), (.int 0), (.int 0), (.int 0), (.int 0), (.int 0), (.int 0), (.int 0), (.int 0), (.int 0), (.int 0), (.int 0), (.int 0)] i_COMPACT_STRINGS h12 n0 Z28 f20 f21 f22 f23 EA12 FC12 FV12 f18 f24 rfl (by decide) own_c0 own_hb0 (show Int32.ofNat ([] : List Int32).length = (0 : Int32) from rfl) (by have e0 : (own_tx0).length = 5 := rfl; have e1 : (own_tx1).length = 2 := rfl; have e2 := own_dec_len nN_ x_; have e3 := own_dg hn63_; have e4 := own_sg x_; simp only [List.length_append, List.length_nil] at *; omega) ge2 ge7_0 (Nat.ne_of_lt (Nat.lt_of_lt_of_le A1.lt sz7_0)) (show [Value.int 0, Value.int 0, Value.int 0, Value.int 0, Value.int 0, Value.int 0, Value.int 0, Value.int 0, Value.int 0, Value.int 0, Value.int 0, Value.int 0, Value.int 0, Value.int 0, Value.int 0, Value.int 0].length = 16 from rfl) (by decide) (by decide) (show ([] : List Int32).length + own_tx0.length ≤ 16 from by have e0 : (own_tx0).length = 5 := rfl; have e1 : (own_tx1).length = 2 := rfl; have e2 := own_dec_len nN_ x_; have e3 := own_dg hn63_; have e4 := own_sg x_; simp only [List.length_append, List.length_nil] at *; omega) (Ne.symm (ne12 b7_0 sf25).2) (Ne.symm (ne12 b1 sf26).2) (Ne.symm (ne12 b1 sf26).1) (Ne.symm (ne12 b7_0 sf25).1) f27 hs_COMPACT_STRINGS) (by decide) (W := 0) (by decide) (by decide) (by decide) e12 (by rw [hml]; rfl) (argsL := [(.ref a12)]) (lenOf own_pd23 rfl) (rest := []) rfl rfl (Nat.le_of_eq rfl) (hb hby dc8_9) ?_
  intro _ T19 L19 X19 hQ19
  have f29 := (f7_3.ext E12)
  obtain ⟨rfl, N19q, K19, f19_0, f19_1, f19_2, f19_3⟩ := hQ19
  have N19 := Fr.app N7 N19q
  have hh30 : own_hs (own_ins [(.int 0), (.int 0), (.int 0), (.int 0), (.int 0), (.int 0), (.int 0), (.int 0), (.int 0), (.int 0), (.int 0), (.int 0), (.int 0), (.int 0), (.int 0), (.int 0)] (own_lb own_tx0) ([] : List Int32).length) (([] : List Int32) ++ own_tx0) := own_ins_hs (show own_hs [(.int 0), (.int 0), (.int 0), (.int 0), (.int 0), (.int 0), (.int 0), (.int 0), (.int 0), (.int 0), (.int 0), (.int 0), (.int 0), (.int 0), (.int 0), (.int 0)] [] from fun i hi => absurd hi (Nat.not_lt_zero i)) (by rw [(show [Value.int 0, Value.int 0, Value.int 0, Value.int 0, Value.int 0, Value.int 0, Value.int 0, Value.int 0, Value.int 0, Value.int 0, Value.int 0, Value.int 0, Value.int 0, Value.int 0, Value.int 0, Value.int 0].length = 16 from rfl)]; have e0 : (own_tx0).length = 5 := rfl; have e1 : (own_tx1).length = 2 := rfl; have e2 := own_dec_len nN_ x_; have e3 := own_dg hn63_; have e4 := own_sg x_; simp only [List.length_append, List.length_nil] at *; omega)
  have hv31 : (own_ins [(.int 0), (.int 0), (.int 0), (.int 0), (.int 0), (.int 0), (.int 0), (.int 0), (.int 0), (.int 0), (.int 0), (.int 0), (.int 0), (.int 0), (.int 0), (.int 0)] (own_lb own_tx0) ([] : List Int32).length).length = 16 := (own_ins_len (by rw [own_lb_len, (show [Value.int 0, Value.int 0, Value.int 0, Value.int 0, Value.int 0, Value.int 0, Value.int 0, Value.int 0, Value.int 0, Value.int 0, Value.int 0, Value.int 0, Value.int 0, Value.int 0, Value.int 0, Value.int 0].length = 16 from rfl)]; have e0 : (own_tx0).length = 5 := rfl; have e1 : (own_tx1).length = 2 := rfl; have e2 := own_dec_len nN_ x_; have e3 := own_dg hn63_; have e4 := own_sg x_; simp only [List.length_append, List.length_nil] at *; omega)).trans (show [Value.int 0, Value.int 0, Value.int 0, Value.int 0, Value.int 0, Value.int 0, Value.int 0, Value.int 0, Value.int 0, Value.int 0, Value.int 0, Value.int 0, Value.int 0, Value.int 0, Value.int 0, Value.int 0].length = 16 from rfl)
  have hcn32 : Int32.ofNat (([] : List Int32) ++ own_tx0).length = ((0 : Int32) + (5 : Int32)) := (own_ccn (show Int32.ofNat ([] : List Int32).length = (0 : Int32) from rfl) rfl)
  show oG p e below _ (T19.setTop (mkF m 12 #[sR rr_] [(.ref b1)]))
  refine og (fun _ hr => XS.aloadN X19.here hx rfl (hb hby dc8_12) rfl rfl hr) ?_
  show oG p e below _ (T19.setTop (mkF m 13 #[sR rr_] [(.ref rr_), (.ref b1)]))
  have K33 := (((K11.trans K7 (allS (Or.inr sz3) all0)).ext E12).trans K19 (allS (Or.inr sz3) (allS (Or.inr sz10) all0)))
  have f34 := (Lr_.keep K33 nin0)
  obtain ⟨T35, X35, e35, st35⟩ := getF X19 hx hZ hown (host := "") (Or.inl (hw _ (own_m 37 rfl))) Via.refl rfl f34 (g := (mkF m 13 #[sR rr_] [(.ref rr_), (.ref b1)])) rfl rfl (hb hby dc8_13)
  refine og st35 ?_
  show oG p e below _ (T35.setTop (mkF m 16 #[sR rr_] [(.long x_), (.ref b1)]))
  rcases Nat.lt_or_ge 16 ((([] : List Int32) ++ own_tx0).length + (Jvm.Free.SBG.digitsL nN_ + Jvm.Free.SBG.GetCharsL.sgnL x_)) with qg36 | qg36
  · skip
    have f38 := (f20.keep K19)
    have f39 := (own_sta_keep f27 K19 (allS (own_ns_exa f20) (allS (own_ns_exa f29) all0)))
    have Z40 := (Nat.le_trans Z28 K19.1)
    refine own_cv X35 hx hZ hown (notFace_of_selects (args := #[]) (mvT hZ (hw _ (own_m 117 rfl)))) (hw _ (own_m 114 rfl)) (hw _ (own_m 115 rfl)) (hw _ (own_m 117 rfl)) (hw _ (own_m 116 rfl)) (hw _ (own_m 48 rfl)) (hw _ (own_m 118 rfl)) (by decide) f38 (rm := { frames := 5, cells := 1, slots := 34, locals := 118 }) (rm_sjg l Z a0 hw [] b1 ((0 : Int32) + (5 : Int32)) (([] : List Int32) ++ own_tx0) b7_0 kb7_0 (own_ins [(.int 0), (.int 0), (.int 0), (.int 0), (.int 0), (.int 0), (.int 0), (.int 0), (.int 0), (.int 0), (.int 0), (.int 0), (.int 0), (.int 0), (.int 0), (.int 0)] (own_lb own_tx0) ([] : List Int32).length) x_ nN_ ist_ da_ db_ Da_ Db_ i_COMPACT_STRINGS T19.heap n0 Z40 f38 f19_0 f19_1 f19_2 f19_3 hcn32 (by have e0 : (own_tx0).length = 5 := rfl; have e1 : (own_tx1).length = 2 := rfl; have e2 := own_dec_len nN_ x_; have e3 := own_dg hn63_; have e4 := own_sg x_; simp only [List.length_append, List.length_nil] at *; omega) ge2 ge7_0 (Nat.ne_of_lt (Nat.lt_of_lt_of_le A1.lt sz7_0)) hh30 (by have e0 : (own_tx0).length = 5 := rfl; have e1 : (own_tx1).length = 2 := rfl; have e2 := own_dec_len nN_ x_; have e3 := own_dg hn63_; have e4 := own_sg x_; simp only [List.length_append, List.length_nil] at *; omega) (by have e0 : (own_tx0).length = 5 := rfl; have e1 : (own_tx1).length = 2 := rfl; have e2 := own_dec_len nN_ x_; have e3 := own_dg hn63_; have e4 := own_sg x_; simp only [List.length_append, List.length_nil] at *; omega) qg36 hn63_ hng_ (own_T_keep Td_ K33 nin0 nin0 nin0) htn_ f39 hs_COMPACT_STRINGS) (by decide) (W := 0) (by decide) (by decide) (by decide) e35 (by rw [hml]; rfl) (argsL := [(.long x_)]) (lenOf own_pd24 rfl) (rest := []) rfl rfl (Nat.le_of_eq rfl) (hb hby dc8_16) ?_
    intro _ T37 L37 X37 hQ37
    obtain ⟨b37_0, kb37_0, w37_0, rfl, N37q, K37, ge37_0, sz37_0, f37_0, f37_1, f37_2, f37_3, f37_4, hx37_0, hx37_1⟩ := hQ37
    have N37 := Fr.app N19 N37q
    have sz41 : h0.size ≤ b37_0 := Nat.le_trans K33.1 sz37_0
    have hcn42 : Int32.ofNat ((([] : List Int32) ++ own_tx0) ++ own_dec nN_ x_).length = (Int32.ofNat ((([] : List Int32) ++ own_tx0).length + (Jvm.Free.SBG.digitsL nN_ + Jvm.Free.SBG.GetCharsL.sgnL x_))) := by rw [List.length_append, own_dec_len]
    show oG p e below _ (T37.setTop (mkF m 19 #[sR rr_] [(.ref b1)]))
    have A44 := A14.trans Al12
    have A45 := A44.trans (CHr.keep K19 (sfS sf26 (sfS sf25 sf0)) A44.1)
    have sf47 := (Safe.keep K19 (sfS sf26 (sfS sf25 sf0)) A44.1 sf26)
    have A46 := A45.trans (CHr.keep K37 (sfS sf47 sf0) A45.1)
    have hk48 := (Nat.le_trans (Nat.le_trans hk12 K19.1) K37.1)
    have hZo49 := hZ
    obtain ⟨a43, T43, h43, k143, b43, k43, X43, e43, E43, hS, hk43, hZ, hown, EA43, FC43, FV43, AV43, -, -, Al43, -, ne43, st43⟩ := ldcCH X37 hx hZ hown (hw _ (own_m 139 rfl)) (own_ws hw) rfl hS hk48 hEL (by simp [own_EL]) A46.1 (vs := [(.int 58), (.int 32)]) (z := (2 : Int32)) ⟨by decide, by decide⟩ (by decide) (by decide) (g := (mkF m 19 #[sR rr_] [(.ref b1)])) rfl (hb hby dc8_19) (n := 8) (by decide) (by decide) (by decide) (by decide)
    refine og st43 ?_
    show oG p e below _ (T43.setTop (mkF m 21 #[sR rr_] [(.ref a43), (.ref b1)]))
    have f50 : Arv Z h43 b43 k43 .byte (2 : Int32) (own_lb own_tx1) (.int 0) := by rw [own_l1]; exact AV43
    have f52 := ((f38.keep K37).ext E43)
    have f53 := (f37_1.ext E43)
    have f54 := (f37_2.ext E43)
    have f55 := (f37_3.ext E43)
    have f56 := (f37_4.ext E43)
    have sf57 := (Al43.safe f37_0.lt (Safe.keep K37 (sfS sf47 sf0) A45.1 (Safe.new sz37_0)))
    have sf58 := (Al43.safe (f38.keep K37).lt (Safe.keep K37 (sfS sf47 sf0) A45.1 sf47))
    have f59 := ((own_sta_keep f39 K37 (allS (own_ns_exa f38) all0)).ext E43)
    have Z60 := (Nat.le_trans (Nat.le_trans Z40 K37.1) E43.1)
    refine own_cv X43 hx hZ hown (notFace_of_selects (args := #[]) (mvT hZ (hw _ (own_m 70 rfl)))) (hw _ (own_m 67 rfl)) (hw _ (own_m 68 rfl)) (hw _ (own_m 70 rfl)) (hw _ (own_m 69 rfl)) (hw _ (own_m 48 rfl)) (hw _ (own_m 71 rfl)) (by decide) f52 (rm := { frames := 4, cells := 0, slots := 0, locals := 83 }) (rm_san l Z a0 hw [] b1 (Int32.ofNat ((([] : List Int32) ++ own_tx0).length + (Jvm.Free.SBG.digitsL nN_ + Jvm.Free.SBG.GetCharsL.sgnL x_))) ((([] : List Int32) ++ own_tx0) ++ own_dec nN_ x_) a43 b43 k43 (2 : Int32) own_tx1 b37_0 kb37_0 (34 : Int32) w37_0 i_COMPACT_STRINGS h43 n0 Z60 f52 f53 f54 f55 EA43 FC43 FV43 f50 f56 rfl (by decide) own_c1 own_hb1 hcn42 (by have e0 : (own_tx0).length = 5 := rfl; have e1 : (own_tx1).length = 2 := rfl; have e2 := own_dec_len nN_ x_; have e3 := own_dg hn63_; have e4 := own_sg x_; simp only [List.length_append, List.length_nil] at *; omega) ge2 ge37_0 (Nat.ne_of_lt (Nat.lt_of_lt_of_le f38.lt sz37_0)) (show w37_0.length = 34 from hx37_0) (by decide) (by decide) (show ((([] : List Int32) ++ own_tx0) ++ own_dec nN_ x_).length + own_tx1.length ≤ 34 from by have e0 : (own_tx0).length = 5 := rfl; have e1 : (own_tx1).length = 2 := rfl; have e2 := own_dec_len nN_ x_; have e3 := own_dg hn63_; have e4 := own_sg x_; simp only [List.length_append, List.length_nil] at *; omega) (Ne.symm (ne43 b37_0 sf57).2) (Ne.symm (ne43 b1 sf58).2) (Ne.symm (ne43 b1 sf58).1) (Ne.symm (ne43 b37_0 sf57).1) f59 hs_COMPACT_STRINGS) (by decide) (W := 0) (by decide) (by decide) (by decide) e43 (by rw [hml]; rfl) (argsL := [(.ref a43)]) (lenOf own_pd23 rfl) (rest := []) rfl rfl (Nat.le_of_eq rfl) (hb hby dc8_21) ?_
    intro _ T51 L51 X51 hQ51
    have f61 := (f37_0.ext E43)
    obtain ⟨rfl, N51q, K51, f51_0, f51_1, f51_2, f51_3⟩ := hQ51
    have N51 := Fr.app N37 N51q
    have hh62 : own_hs (own_ins w37_0 (own_lb own_tx1) ((([] : List Int32) ++ own_tx0) ++ own_dec nN_ x_).length) (((([] : List Int32) ++ own_tx0) ++ own_dec nN_ x_) ++ own_tx1) := own_ins_hs hx37_1 (by rw [(show w37_0.length = 34 from hx37_0)]; have e0 : (own_tx0).length = 5 := rfl; have e1 : (own_tx1).length = 2 := rfl; have e2 := own_dec_len nN_ x_; have e3 := own_dg hn63_; have e4 := own_sg x_; simp only [List.length_append, List.length_nil] at *; omega)
    have hv63 : (own_ins w37_0 (own_lb own_tx1) ((([] : List Int32) ++ own_tx0) ++ own_dec nN_ x_).length).length = 34 := (own_ins_len (by rw [own_lb_len, (show w37_0.length = 34 from hx37_0)]; have e0 : (own_tx0).length = 5 := rfl; have e1 : (own_tx1).length = 2 := rfl; have e2 := own_dec_len nN_ x_; have e3 := own_dg hn63_; have e4 := own_sg x_; simp only [List.length_append, List.length_nil] at *; omega)).trans (show w37_0.length = 34 from hx37_0)
    have hcn64 : Int32.ofNat (((([] : List Int32) ++ own_tx0) ++ own_dec nN_ x_) ++ own_tx1).length = ((Int32.ofNat ((([] : List Int32) ++ own_tx0).length + (Jvm.Free.SBG.digitsL nN_ + Jvm.Free.SBG.GetCharsL.sgnL x_))) + (2 : Int32)) := (own_ccn hcn42 rfl)
    show oG p e below _ (T51.setTop (mkF m 24 #[sR rr_] [(.ref b1)]))
    refine og (fun _ hr => XS.aloadN X51.here hx rfl (hb hby dc8_24) rfl rfl hr) ?_
    show oG p e below _ (T51.setTop (mkF m 25 #[sR rr_] [(.ref rr_), (.ref b1)]))
    have K65 := (((K33.trans K37 (allS (Or.inr sz3) all0)).ext E43).trans K51 (allS (Or.inr sz3) (allS (Or.inr sz41) all0)))
    have f66 := (Rr_.keep K65 nin0)
    obtain ⟨T67, X67, e67, st67⟩ := getF X51 hx hZ hown (host := "") (Or.inl (hw _ (own_m 39 rfl))) Via.refl rfl f66 (g := (mkF m 25 #[sR rr_] [(.ref rr_), (.ref b1)])) rfl rfl (hb hby dc8_25)
    refine og st67 ?_
    show oG p e below _ (T67.setTop (mkF m 28 #[sR rr_] [(.ref s_), (.ref b1)]))
    have f69 := (f52.keep K51)
    have f70 := (Es_.keep K65)
    have f71 := (Cs_.keep K65 nin0)
    have f72 := (Vs_.keep K65 nin0)
    have f73 := (Kt_.keep K65 nin0)
    have f74 := (own_sta_keep f59 K51 (allS (own_ns_exa f52) (allS (own_ns_exa f61) all0)))
    have Z75 := (Nat.le_trans Z60 K51.1)
    refine own_cv X67 hx hZ hown (notFace_of_selects (args := #[]) (mvT hZ (hw _ (own_m 70 rfl)))) (hw _ (own_m 67 rfl)) (hw _ (own_m 68 rfl)) (hw _ (own_m 70 rfl)) (hw _ (own_m 69 rfl)) (hw _ (own_m 48 rfl)) (hw _ (own_m 71 rfl)) (by decide) f69 (rm := { frames := 4, cells := 0, slots := 0, locals := 83 }) (rm_san l Z a0 hw [] b1 ((Int32.ofNat ((([] : List Int32) ++ own_tx0).length + (Jvm.Free.SBG.digitsL nN_ + Jvm.Free.SBG.GetCharsL.sgnL x_))) + (2 : Int32)) (((([] : List Int32) ++ own_tx0) ++ own_dec nN_ x_) ++ own_tx1) s_ t_ kt_ nn_ ds_ b37_0 kb37_0 (34 : Int32) (own_ins w37_0 (own_lb own_tx1) ((([] : List Int32) ++ own_tx0) ++ own_dec nN_ x_).length) i_COMPACT_STRINGS T51.heap n0 Z75 f69 f51_0 f51_1 f51_2 f70 f71 f72 f73 f51_3 hnn_ (Nat.le_trans hdl3_ (by decide)) hcd_ hbx_ hcn64 (by have e0 : (own_tx0).length = 5 := rfl; have e1 : (own_tx1).length = 2 := rfl; have e2 := own_dec_len nN_ x_; have e3 := own_dg hn63_; have e4 := own_sg x_; simp only [List.length_append, List.length_nil] at *; omega) ge2 ge37_0 (Nat.ne_of_lt (Nat.lt_of_lt_of_le f38.lt sz37_0)) hv63 (by decide) (by decide) (show (((([] : List Int32) ++ own_tx0) ++ own_dec nN_ x_) ++ own_tx1).length + ds_.length ≤ 34 from by have e0 : (own_tx0).length = 5 := rfl; have e1 : (own_tx1).length = 2 := rfl; have e2 := own_dec_len nN_ x_; have e3 := own_dg hn63_; have e4 := own_sg x_; simp only [List.length_append, List.length_nil] at *; omega) (Nat.ne_of_lt (Nat.lt_of_lt_of_le ((((Kt_.ext E1).keep K7 (ninS (Nat.ne_of_lt (Nat.lt_of_lt_of_le Kt_.lt (Nat.le_of_eq g1.symm))) nin0)).ext E12).keep K19 (ninS (Nat.ne_of_lt (Nat.lt_of_lt_of_le Kt_.lt (Nat.le_of_eq g1.symm))) (ninS (Nat.ne_of_lt (Nat.lt_of_lt_of_le (Kt_.ext E1).lt sz7_0)) nin0))).lt sz37_0)) (Nat.ne_of_lt (Nat.lt_of_lt_of_le Kt_.lt (Nat.le_of_eq g1.symm))) (Nat.ne_of_lt (Nat.lt_of_lt_of_le Es_.lt (Nat.le_of_eq g1.symm))) (Nat.ne_of_lt (Nat.lt_of_lt_of_le ((((Es_.ext E1).keep K7).ext E12).keep K19).lt sz37_0)) f74 hs_COMPACT_STRINGS) (by decide) (W := 0) (by decide) (by decide) (by decide) e67 (by rw [hml]; rfl) (argsL := [(.ref s_)]) (lenOf own_pd23 rfl) (rest := []) rfl rfl (Nat.le_of_eq rfl) (hb hby dc8_28) ?_
    intro _ T68 L68 X68 hQ68
    have f76 := (f61.keep K51)
    obtain ⟨rfl, N68q, K68, f68_0, f68_1, f68_2, f68_3⟩ := hQ68
    have N68 := Fr.app N51 N68q
    have hh77 : own_hs (own_ins (own_ins w37_0 (own_lb own_tx1) ((([] : List Int32) ++ own_tx0) ++ own_dec nN_ x_).length) (own_lb ds_) (((([] : List Int32) ++ own_tx0) ++ own_dec nN_ x_) ++ own_tx1).length) ((((([] : List Int32) ++ own_tx0) ++ own_dec nN_ x_) ++ own_tx1) ++ ds_) := own_ins_hs hh62 (by rw [hv63]; have e0 : (own_tx0).length = 5 := rfl; have e1 : (own_tx1).length = 2 := rfl; have e2 := own_dec_len nN_ x_; have e3 := own_dg hn63_; have e4 := own_sg x_; simp only [List.length_append, List.length_nil] at *; omega)
    have hv78 : (own_ins (own_ins w37_0 (own_lb own_tx1) ((([] : List Int32) ++ own_tx0) ++ own_dec nN_ x_).length) (own_lb ds_) (((([] : List Int32) ++ own_tx0) ++ own_dec nN_ x_) ++ own_tx1).length).length = 34 := (own_ins_len (by rw [own_lb_len, hv63]; have e0 : (own_tx0).length = 5 := rfl; have e1 : (own_tx1).length = 2 := rfl; have e2 := own_dec_len nN_ x_; have e3 := own_dg hn63_; have e4 := own_sg x_; simp only [List.length_append, List.length_nil] at *; omega)).trans hv63
    have hcn79 : Int32.ofNat ((((([] : List Int32) ++ own_tx0) ++ own_dec nN_ x_) ++ own_tx1) ++ ds_).length = (((Int32.ofNat ((([] : List Int32) ++ own_tx0).length + (Jvm.Free.SBG.digitsL nN_ + Jvm.Free.SBG.GetCharsL.sgnL x_))) + (2 : Int32)) + nn_) := (own_ccn hcn64 hnn_)
    show oG p e below _ (T68.setTop (mkF m 31 #[sR rr_] [(.ref b1)]))
    have f81 := (f69.keep K68)
    have f82 := (f76.keep K68)
    have f83 := (own_sta_keep f74 K68 (allS (own_ns_exa f69) (allS (own_ns_exa f76) all0)))
    have Z84 := (Nat.le_trans Z75 K68.1)
    refine own_cv X68 hx hZ hown (notFace_of_selects (args := #[]) (mvT hZ (hw _ (own_m 143 rfl)))) (hw _ (own_m 140 rfl)) (hw _ (own_m 141 rfl)) (hw _ (own_m 143 rfl)) (hw _ (own_m 142 rfl)) (hw _ (own_m 48 rfl)) (hw _ (own_m 144 rfl)) (by decide) f81 (rm := { frames := 5, cells := 2, slots := 44, locals := 101 }) (rm_ts34x l Z a0 hw [] b1 (((Int32.ofNat ((([] : List Int32) ++ own_tx0).length + (Jvm.Free.SBG.digitsL nN_ + Jvm.Free.SBG.GetCharsL.sgnL x_))) + (2 : Int32)) + nn_) ((((([] : List Int32) ++ own_tx0) ++ own_dec nN_ x_) ++ own_tx1) ++ ds_) b37_0 kb37_0 (own_ins (own_ins w37_0 (own_lb own_tx1) ((([] : List Int32) ++ own_tx0) ++ own_dec nN_ x_).length) (own_lb ds_) (((([] : List Int32) ++ own_tx0) ++ own_dec nN_ x_) ++ own_tx1).length) i_COMPACT_STRINGS T68.heap n0 Z84 f81 f68_0 f68_1 f68_2 f68_3 f82 hcn79 hh77 hv78 (by have e0 : (own_tx0).length = 5 := rfl; have e1 : (own_tx1).length = 2 := rfl; have e2 := own_dec_len nN_ x_; have e3 := own_dg hn63_; have e4 := own_sg x_; simp only [List.length_append, List.length_nil] at *; omega) f83 hs_COMPACT_STRINGS) (by decide) (W := 0) (by decide) (by decide) (by decide) rfl (by rw [hml]; rfl) (argsL := []) (lenOf own_pd25 rfl) (rest := []) rfl rfl (Nat.le_of_eq rfl) (hb hby dc8_31) ?_
    intro _ T80 L80 X80 hQ80
    obtain ⟨b80_0, b80_1, kb80_0, rfl, N80q, K80, ge80_0, sz80_0, ge80_1, sz80_1, ne80_0, f80_0, f80_1, f80_2, f80_3⟩ := hQ80
    have N80 := Fr.app N68 N80q
    have K86 := (K65.trans K68 (allS (Or.inr sz3) (allS (Or.inr sz41) all0)))
    have sz85 : h0.size ≤ b80_0 := Nat.le_trans K86.1 sz80_0
    have sz87 : h0.size ≤ b80_1 := Nat.le_trans K86.1 sz80_1
    show oG p e below _ (T80.setTop (mkF m 34 #[sR rr_] [(.ref b80_0)]))
    have K88 := (K86.trans K80 all0)
    have hk89 := (Nat.le_trans (Nat.le_trans (Nat.le_trans hk43 K51.1) K68.1) K80.1)
    have A90 := A46.trans Al43
    have A91 := A90.trans (CHr.keep K51 (sfS sf58 (sfS sf57 sf0)) A90.1)
    have sf93 := (Safe.keep K51 (sfS sf58 (sfS sf57 sf0)) A90.1 sf57)
    have sf94 := (Safe.keep K51 (sfS sf58 (sfS sf57 sf0)) A90.1 sf58)
    have A92 := A91.trans (CHr.keep K68 (sfS sf94 (sfS sf93 sf0)) A91.1)
    have A95 := A92.trans (CHr.keep K80 sf0 A92.1)
    exact own_retRW X80 hx hlk Bd.returns hS hk89 hZ hEL hh rfl A95 rfl rfl (hb hby dc8_34) (by decide) (by decide) (by exact ⟨b80_0, b80_1, kb80_0, rfl, N80, K88, ge80_0, sz85, f80_0, f80_1, f80_2, (by have q := f80_3; rw [← hcn79] at q; exact q)⟩)
  have f97 := (f20.keep K19)
  have f98 := (own_sta_keep f27 K19 (allS (own_ns_exa f20) (allS (own_ns_exa f29) all0)))
  have Z99 := (Nat.le_trans Z28 K19.1)
  refine own_cv X35 hx hZ hown (notFace_of_selects (args := #[]) (mvT hZ (hw _ (own_m 117 rfl)))) (hw _ (own_m 114 rfl)) (hw _ (own_m 115 rfl)) (hw _ (own_m 117 rfl)) (hw _ (own_m 116 rfl)) (hw _ (own_m 48 rfl)) (hw _ (own_m 118 rfl)) (by decide) f97 (rm := { frames := 3, cells := 0, slots := 0, locals := 118 }) (rm_sjn l Z a0 hw [] b1 ((0 : Int32) + (5 : Int32)) (([] : List Int32) ++ own_tx0) b7_0 kb7_0 (16 : Int32) (own_ins [(.int 0), (.int 0), (.int 0), (.int 0), (.int 0), (.int 0), (.int 0), (.int 0), (.int 0), (.int 0), (.int 0), (.int 0), (.int 0), (.int 0), (.int 0), (.int 0)] (own_lb own_tx0) ([] : List Int32).length) x_ nN_ ist_ da_ db_ Da_ Db_ i_COMPACT_STRINGS T19.heap n0 Z99 f97 f19_0 f19_1 f19_2 f19_3 hcn32 (by have e0 : (own_tx0).length = 5 := rfl; have e1 : (own_tx1).length = 2 := rfl; have e2 := own_dec_len nN_ x_; have e3 := own_dg hn63_; have e4 := own_sg x_; simp only [List.length_append, List.length_nil] at *; omega) ge2 ge7_0 (Nat.ne_of_lt (Nat.lt_of_lt_of_le A1.lt sz7_0)) hv31 (by decide) (by decide) hh30 qg36 hn63_ hng_ (own_T_keep Td_ K33 nin0 nin0 nin0) htn_ f98 hs_COMPACT_STRINGS) (by decide) (W := 0) (by decide) (by decide) (by decide) e35 (by rw [hml]; rfl) (argsL := [(.long x_)]) (lenOf own_pd24 rfl) (rest := []) rfl rfl (Nat.le_of_eq rfl) (hb hby dc8_16) ?_
  intro _ T96 L96 X96 hQ96
  have f100 := (f29.keep K19)
  obtain ⟨w96_0, rfl, N96q, K96, f96_0, f96_1, f96_2, f96_3, hx96_0, hx96_1⟩ := hQ96
  have N96 := Fr.app N19 N96q
  have hcn101 : Int32.ofNat ((([] : List Int32) ++ own_tx0) ++ own_dec nN_ x_).length = (Int32.ofNat ((([] : List Int32) ++ own_tx0).length + (Jvm.Free.SBG.digitsL nN_ + Jvm.Free.SBG.GetCharsL.sgnL x_))) := by rw [List.length_append, own_dec_len]
  show oG p e below _ (T96.setTop (mkF m 19 #[sR rr_] [(.ref b1)]))
  have A103 := A14.trans Al12
  have A104 := A103.trans (CHr.keep K19 (sfS sf26 (sfS sf25 sf0)) A103.1)
  have sf106 := (Safe.keep K19 (sfS sf26 (sfS sf25 sf0)) A103.1 sf25)
  have sf107 := (Safe.keep K19 (sfS sf26 (sfS sf25 sf0)) A103.1 sf26)
  have A105 := A104.trans (CHr.keep K96 (sfS sf107 (sfS sf106 sf0)) A104.1)
  have hk108 := (Nat.le_trans (Nat.le_trans hk12 K19.1) K96.1)
  have hZo109 := hZ
  obtain ⟨a102, T102, h102, k1102, b102, k102, X102, e102, E102, hS, hk102, hZ, hown, EA102, FC102, FV102, AV102, -, -, Al102, -, ne102, st102⟩ := ldcCH X96 hx hZ hown (hw _ (own_m 139 rfl)) (own_ws hw) rfl hS hk108 hEL (by simp [own_EL]) A105.1 (vs := [(.int 58), (.int 32)]) (z := (2 : Int32)) ⟨by decide, by decide⟩ (by decide) (by decide) (g := (mkF m 19 #[sR rr_] [(.ref b1)])) rfl (hb hby dc8_19) (n := 8) (by decide) (by decide) (by decide) (by decide)
  refine og st102 ?_
  show oG p e below _ (T102.setTop (mkF m 21 #[sR rr_] [(.ref a102), (.ref b1)]))
  have f110 : Arv Z h102 b102 k102 .byte (2 : Int32) (own_lb own_tx1) (.int 0) := by rw [own_l1]; exact AV102
  rcases Nat.lt_or_ge 16 (((([] : List Int32) ++ own_tx0) ++ own_dec nN_ x_).length + own_tx1.length) with qg111 | qg111
  · skip
    have f112 : Arv Z h102 b102 k102 .byte (2 : Int32) (own_lb own_tx1) (.int 0) := by rw [own_l1]; exact f110
    have f114 := ((f97.keep K96).ext E102)
    have f115 := (f96_0.ext E102)
    have f116 := (f96_1.ext E102)
    have f117 := (f96_2.ext E102)
    have f118 := (f96_3.ext E102)
    have sf119 := (Al102.safe (f100.keep K96).lt (Safe.keep K96 (sfS sf107 (sfS sf106 sf0)) A104.1 sf106))
    have sf120 := (Al102.safe (f97.keep K96).lt (Safe.keep K96 (sfS sf107 (sfS sf106 sf0)) A104.1 sf107))
    have f121 := ((own_sta_keep f98 K96 (allS (own_ns_exa f97) (allS (own_ns_exa f100) all0))).ext E102)
    have Z122 := (Nat.le_trans (Nat.le_trans Z99 K96.1) E102.1)
    refine own_cv X102 hx hZ hown (notFace_of_selects (args := #[]) (mvT hZ (hw _ (own_m 70 rfl)))) (hw _ (own_m 67 rfl)) (hw _ (own_m 68 rfl)) (hw _ (own_m 70 rfl)) (hw _ (own_m 69 rfl)) (hw _ (own_m 48 rfl)) (hw _ (own_m 71 rfl)) (by decide) f114 (rm := { frames := 5, cells := 1, slots := 34, locals := 83 }) (rm_sag l Z a0 hw [] b1 (Int32.ofNat ((([] : List Int32) ++ own_tx0).length + (Jvm.Free.SBG.digitsL nN_ + Jvm.Free.SBG.GetCharsL.sgnL x_))) ((([] : List Int32) ++ own_tx0) ++ own_dec nN_ x_) a102 b102 k102 (2 : Int32) own_tx1 b7_0 kb7_0 w96_0 i_COMPACT_STRINGS h102 n0 Z122 f114 f115 f116 f117 EA102 FC102 FV102 f112 f118 rfl (by decide) own_c1 own_hb1 hcn101 (by have e0 : (own_tx0).length = 5 := rfl; have e1 : (own_tx1).length = 2 := rfl; have e2 := own_dec_len nN_ x_; have e3 := own_dg hn63_; have e4 := own_sg x_; simp only [List.length_append, List.length_nil] at *; omega) ge2 ge7_0 (Nat.ne_of_lt (Nat.lt_of_lt_of_le A1.lt sz7_0)) (by have e0 : (own_tx0).length = 5 := rfl; have e1 : (own_tx1).length = 2 := rfl; have e2 := own_dec_len nN_ x_; have e3 := own_dg hn63_; have e4 := own_sg x_; simp only [List.length_append, List.length_nil] at *; omega) qg111 (Ne.symm (ne102 b7_0 sf119).2) (Ne.symm (ne102 b1 sf120).2) (Ne.symm (ne102 b1 sf120).1) (Ne.symm (ne102 b7_0 sf119).1) f121 hs_COMPACT_STRINGS) (by decide) (W := 0) (by decide) (by decide) (by decide) e102 (by rw [hml]; rfl) (argsL := [(.ref a102)]) (lenOf own_pd23 rfl) (rest := []) rfl rfl (Nat.le_of_eq rfl) (hb hby dc8_21) ?_
    intro _ T113 L113 X113 hQ113
    obtain ⟨b113_0, kb113_0, rfl, N113q, K113, ge113_0, sz113_0, f113_0, f113_1, f113_2, f113_3, f113_4⟩ := hQ113
    have N113 := Fr.app N96 N113q
    have K124 := ((K33.trans K96 (allS (Or.inr sz3) (allS (Or.inr sz10) all0))).ext E102)
    have sz123 : h0.size ≤ b113_0 := Nat.le_trans K124.1 sz113_0
    have hh125 : own_hs (own_ins (own_grow w96_0) (own_lb own_tx1) ((([] : List Int32) ++ own_tx0) ++ own_dec nN_ x_).length) (((([] : List Int32) ++ own_tx0) ++ own_dec nN_ x_) ++ own_tx1) := own_ins_hs (own_grow_hs hx96_1 (by have e0 : (own_tx0).length = 5 := rfl; have e1 : (own_tx1).length = 2 := rfl; have e2 := own_dec_len nN_ x_; have e3 := own_dg hn63_; have e4 := own_sg x_; simp only [List.length_append, List.length_nil] at *; omega)) (by rw [(own_grow_len _)]; have e0 : (own_tx0).length = 5 := rfl; have e1 : (own_tx1).length = 2 := rfl; have e2 := own_dec_len nN_ x_; have e3 := own_dg hn63_; have e4 := own_sg x_; simp only [List.length_append, List.length_nil] at *; omega)
    have hv126 : (own_ins (own_grow w96_0) (own_lb own_tx1) ((([] : List Int32) ++ own_tx0) ++ own_dec nN_ x_).length).length = 34 := (own_ins_len (by rw [own_lb_len, (own_grow_len _)]; have e0 : (own_tx0).length = 5 := rfl; have e1 : (own_tx1).length = 2 := rfl; have e2 := own_dec_len nN_ x_; have e3 := own_dg hn63_; have e4 := own_sg x_; simp only [List.length_append, List.length_nil] at *; omega)).trans (own_grow_len _)
    have hcn127 : Int32.ofNat (((([] : List Int32) ++ own_tx0) ++ own_dec nN_ x_) ++ own_tx1).length = ((Int32.ofNat ((([] : List Int32) ++ own_tx0).length + (Jvm.Free.SBG.digitsL nN_ + Jvm.Free.SBG.GetCharsL.sgnL x_))) + (2 : Int32)) := (own_ccn hcn101 rfl)
    show oG p e below _ (T113.setTop (mkF m 24 #[sR rr_] [(.ref b1)]))
    refine og (fun _ hr => XS.aloadN X113.here hx rfl (hb hby dc8_24) rfl rfl hr) ?_
    show oG p e below _ (T113.setTop (mkF m 25 #[sR rr_] [(.ref rr_), (.ref b1)]))
    have K128 := (K124.trans K113 (allS (Or.inr sz3) all0))
    have f129 := (Rr_.keep K128 nin0)
    obtain ⟨T130, X130, e130, st130⟩ := getF X113 hx hZ hown (host := "") (Or.inl (hw _ (own_m 39 rfl))) Via.refl rfl f129 (g := (mkF m 25 #[sR rr_] [(.ref rr_), (.ref b1)])) rfl rfl (hb hby dc8_25)
    refine og st130 ?_
    show oG p e below _ (T130.setTop (mkF m 28 #[sR rr_] [(.ref s_), (.ref b1)]))
    have f132 := (f114.keep K113)
    have f133 := (Es_.keep K128)
    have f134 := (Cs_.keep K128 nin0)
    have f135 := (Vs_.keep K128 nin0)
    have f136 := (Kt_.keep K128 nin0)
    have f137 := (own_sta_keep f121 K113 (allS (own_ns_exa f114) all0))
    have Z138 := (Nat.le_trans Z122 K113.1)
    refine own_cv X130 hx hZ hown (notFace_of_selects (args := #[]) (mvT hZ (hw _ (own_m 70 rfl)))) (hw _ (own_m 67 rfl)) (hw _ (own_m 68 rfl)) (hw _ (own_m 70 rfl)) (hw _ (own_m 69 rfl)) (hw _ (own_m 48 rfl)) (hw _ (own_m 71 rfl)) (by decide) f132 (rm := { frames := 4, cells := 0, slots := 0, locals := 83 }) (rm_san l Z a0 hw [] b1 ((Int32.ofNat ((([] : List Int32) ++ own_tx0).length + (Jvm.Free.SBG.digitsL nN_ + Jvm.Free.SBG.GetCharsL.sgnL x_))) + (2 : Int32)) (((([] : List Int32) ++ own_tx0) ++ own_dec nN_ x_) ++ own_tx1) s_ t_ kt_ nn_ ds_ b113_0 kb113_0 (34 : Int32) (own_ins (own_grow w96_0) (own_lb own_tx1) ((([] : List Int32) ++ own_tx0) ++ own_dec nN_ x_).length) i_COMPACT_STRINGS T113.heap n0 Z138 f132 f113_1 f113_2 f113_3 f133 f134 f135 f136 f113_4 hnn_ (Nat.le_trans hdl3_ (by decide)) hcd_ hbx_ hcn127 (by have e0 : (own_tx0).length = 5 := rfl; have e1 : (own_tx1).length = 2 := rfl; have e2 := own_dec_len nN_ x_; have e3 := own_dg hn63_; have e4 := own_sg x_; simp only [List.length_append, List.length_nil] at *; omega) ge2 ge113_0 (Nat.ne_of_lt (Nat.lt_of_lt_of_le f114.lt sz113_0)) hv126 (by decide) (by decide) (show (((([] : List Int32) ++ own_tx0) ++ own_dec nN_ x_) ++ own_tx1).length + ds_.length ≤ 34 from by have e0 : (own_tx0).length = 5 := rfl; have e1 : (own_tx1).length = 2 := rfl; have e2 := own_dec_len nN_ x_; have e3 := own_dg hn63_; have e4 := own_sg x_; simp only [List.length_append, List.length_nil] at *; omega) (Nat.ne_of_lt (Nat.lt_of_lt_of_le ((((((Kt_.ext E1).keep K7 (ninS (Nat.ne_of_lt (Nat.lt_of_lt_of_le Kt_.lt (Nat.le_of_eq g1.symm))) nin0)).ext E12).keep K19 (ninS (Nat.ne_of_lt (Nat.lt_of_lt_of_le Kt_.lt (Nat.le_of_eq g1.symm))) (ninS (Nat.ne_of_lt (Nat.lt_of_lt_of_le (Kt_.ext E1).lt sz7_0)) nin0))).keep K96 (ninS (Nat.ne_of_lt (Nat.lt_of_lt_of_le Kt_.lt (Nat.le_of_eq g1.symm))) (ninS (Nat.ne_of_lt (Nat.lt_of_lt_of_le (Kt_.ext E1).lt sz7_0)) nin0))).ext E102).lt sz113_0)) (Nat.ne_of_lt (Nat.lt_of_lt_of_le Kt_.lt (Nat.le_of_eq g1.symm))) (Nat.ne_of_lt (Nat.lt_of_lt_of_le Es_.lt (Nat.le_of_eq g1.symm))) (Nat.ne_of_lt (Nat.lt_of_lt_of_le ((((((Es_.ext E1).keep K7).ext E12).keep K19).keep K96).ext E102).lt sz113_0)) f137 hs_COMPACT_STRINGS) (by decide) (W := 0) (by decide) (by decide) (by decide) e130 (by rw [hml]; rfl) (argsL := [(.ref s_)]) (lenOf own_pd23 rfl) (rest := []) rfl rfl (Nat.le_of_eq rfl) (hb hby dc8_28) ?_
    intro _ T131 L131 X131 hQ131
    obtain ⟨rfl, N131q, K131, f131_0, f131_1, f131_2, f131_3⟩ := hQ131
    have N131 := Fr.app N113 N131q
    have hh139 : own_hs (own_ins (own_ins (own_grow w96_0) (own_lb own_tx1) ((([] : List Int32) ++ own_tx0) ++ own_dec nN_ x_).length) (own_lb ds_) (((([] : List Int32) ++ own_tx0) ++ own_dec nN_ x_) ++ own_tx1).length) ((((([] : List Int32) ++ own_tx0) ++ own_dec nN_ x_) ++ own_tx1) ++ ds_) := own_ins_hs hh125 (by rw [hv126]; have e0 : (own_tx0).length = 5 := rfl; have e1 : (own_tx1).length = 2 := rfl; have e2 := own_dec_len nN_ x_; have e3 := own_dg hn63_; have e4 := own_sg x_; simp only [List.length_append, List.length_nil] at *; omega)
    have hv140 : (own_ins (own_ins (own_grow w96_0) (own_lb own_tx1) ((([] : List Int32) ++ own_tx0) ++ own_dec nN_ x_).length) (own_lb ds_) (((([] : List Int32) ++ own_tx0) ++ own_dec nN_ x_) ++ own_tx1).length).length = 34 := (own_ins_len (by rw [own_lb_len, hv126]; have e0 : (own_tx0).length = 5 := rfl; have e1 : (own_tx1).length = 2 := rfl; have e2 := own_dec_len nN_ x_; have e3 := own_dg hn63_; have e4 := own_sg x_; simp only [List.length_append, List.length_nil] at *; omega)).trans hv126
    have hcn141 : Int32.ofNat ((((([] : List Int32) ++ own_tx0) ++ own_dec nN_ x_) ++ own_tx1) ++ ds_).length = (((Int32.ofNat ((([] : List Int32) ++ own_tx0).length + (Jvm.Free.SBG.digitsL nN_ + Jvm.Free.SBG.GetCharsL.sgnL x_))) + (2 : Int32)) + nn_) := (own_ccn hcn127 hnn_)
    show oG p e below _ (T131.setTop (mkF m 31 #[sR rr_] [(.ref b1)]))
    have f143 := (f132.keep K131)
    have f144 := (f113_0.keep K131)
    have f145 := (own_sta_keep f137 K131 (allS (own_ns_exa f132) (allS (own_ns_exa f113_0) all0)))
    have Z146 := (Nat.le_trans Z138 K131.1)
    refine own_cv X131 hx hZ hown (notFace_of_selects (args := #[]) (mvT hZ (hw _ (own_m 143 rfl)))) (hw _ (own_m 140 rfl)) (hw _ (own_m 141 rfl)) (hw _ (own_m 143 rfl)) (hw _ (own_m 142 rfl)) (hw _ (own_m 48 rfl)) (hw _ (own_m 144 rfl)) (by decide) f143 (rm := { frames := 5, cells := 2, slots := 44, locals := 101 }) (rm_ts34x l Z a0 hw [] b1 (((Int32.ofNat ((([] : List Int32) ++ own_tx0).length + (Jvm.Free.SBG.digitsL nN_ + Jvm.Free.SBG.GetCharsL.sgnL x_))) + (2 : Int32)) + nn_) ((((([] : List Int32) ++ own_tx0) ++ own_dec nN_ x_) ++ own_tx1) ++ ds_) b113_0 kb113_0 (own_ins (own_ins (own_grow w96_0) (own_lb own_tx1) ((([] : List Int32) ++ own_tx0) ++ own_dec nN_ x_).length) (own_lb ds_) (((([] : List Int32) ++ own_tx0) ++ own_dec nN_ x_) ++ own_tx1).length) i_COMPACT_STRINGS T131.heap n0 Z146 f143 f131_0 f131_1 f131_2 f131_3 f144 hcn141 hh139 hv140 (by have e0 : (own_tx0).length = 5 := rfl; have e1 : (own_tx1).length = 2 := rfl; have e2 := own_dec_len nN_ x_; have e3 := own_dg hn63_; have e4 := own_sg x_; simp only [List.length_append, List.length_nil] at *; omega) f145 hs_COMPACT_STRINGS) (by decide) (W := 0) (by decide) (by decide) (by decide) rfl (by rw [hml]; rfl) (argsL := []) (lenOf own_pd25 rfl) (rest := []) rfl rfl (Nat.le_of_eq rfl) (hb hby dc8_31) ?_
    intro _ T142 L142 X142 hQ142
    obtain ⟨b142_0, b142_1, kb142_0, rfl, N142q, K142, ge142_0, sz142_0, ge142_1, sz142_1, ne142_0, f142_0, f142_1, f142_2, f142_3⟩ := hQ142
    have N142 := Fr.app N131 N142q
    have K148 := (K128.trans K131 (allS (Or.inr sz3) (allS (Or.inr sz123) all0)))
    have sz147 : h0.size ≤ b142_0 := Nat.le_trans K148.1 sz142_0
    have sz149 : h0.size ≤ b142_1 := Nat.le_trans K148.1 sz142_1
    show oG p e below _ (T142.setTop (mkF m 34 #[sR rr_] [(.ref b142_0)]))
    have K150 := (K148.trans K142 all0)
    have hk151 := (Nat.le_trans (Nat.le_trans (Nat.le_trans hk102 K113.1) K131.1) K142.1)
    have A152 := A105.trans Al102
    have A153 := A152.trans (CHr.keep K113 (sfS sf120 sf0) A152.1)
    have sf155 := (Safe.keep K113 (sfS sf120 sf0) A152.1 (Safe.new sz113_0))
    have sf156 := (Safe.keep K113 (sfS sf120 sf0) A152.1 sf120)
    have A154 := A153.trans (CHr.keep K131 (sfS sf156 (sfS sf155 sf0)) A153.1)
    have A157 := A154.trans (CHr.keep K142 sf0 A154.1)
    exact own_retRW X142 hx hlk Bd.returns hS hk151 hZ hEL hh rfl A157 rfl rfl (hb hby dc8_34) (by decide) (by decide) (by exact ⟨b142_0, b142_1, kb142_0, rfl, N142, K150, ge142_0, sz147, f142_0, f142_1, f142_2, (by have q := f142_3; rw [← hcn141] at q; exact q)⟩)
  have f159 := ((f97.keep K96).ext E102)
  have f160 := (f96_0.ext E102)
  have f161 := (f96_1.ext E102)
  have f162 := (f96_2.ext E102)
  have f163 := (f96_3.ext E102)
  have sf164 := (Al102.safe (f100.keep K96).lt (Safe.keep K96 (sfS sf107 (sfS sf106 sf0)) A104.1 sf106))
  have sf165 := (Al102.safe (f97.keep K96).lt (Safe.keep K96 (sfS sf107 (sfS sf106 sf0)) A104.1 sf107))
  have f166 := ((own_sta_keep f98 K96 (allS (own_ns_exa f97) (allS (own_ns_exa f100) all0))).ext E102)
  have Z167 := (Nat.le_trans (Nat.le_trans Z99 K96.1) E102.1)
  refine own_cv X102 hx hZ hown (notFace_of_selects (args := #[]) (mvT hZ (hw _ (own_m 70 rfl)))) (hw _ (own_m 67 rfl)) (hw _ (own_m 68 rfl)) (hw _ (own_m 70 rfl)) (hw _ (own_m 69 rfl)) (hw _ (own_m 48 rfl)) (hw _ (own_m 71 rfl)) (by decide) f159 (rm := { frames := 4, cells := 0, slots := 0, locals := 83 }) (rm_san l Z a0 hw [] b1 (Int32.ofNat ((([] : List Int32) ++ own_tx0).length + (Jvm.Free.SBG.digitsL nN_ + Jvm.Free.SBG.GetCharsL.sgnL x_))) ((([] : List Int32) ++ own_tx0) ++ own_dec nN_ x_) a102 b102 k102 (2 : Int32) own_tx1 b7_0 kb7_0 (16 : Int32) w96_0 i_COMPACT_STRINGS h102 n0 Z167 f159 f160 f161 f162 EA102 FC102 FV102 f110 f163 rfl (by decide) own_c1 own_hb1 hcn101 (by have e0 : (own_tx0).length = 5 := rfl; have e1 : (own_tx1).length = 2 := rfl; have e2 := own_dec_len nN_ x_; have e3 := own_dg hn63_; have e4 := own_sg x_; simp only [List.length_append, List.length_nil] at *; omega) ge2 ge7_0 (Nat.ne_of_lt (Nat.lt_of_lt_of_le A1.lt sz7_0)) (show w96_0.length = 16 from hx96_0) (by decide) (by decide) (show ((([] : List Int32) ++ own_tx0) ++ own_dec nN_ x_).length + own_tx1.length ≤ 16 from by have e0 : (own_tx0).length = 5 := rfl; have e1 : (own_tx1).length = 2 := rfl; have e2 := own_dec_len nN_ x_; have e3 := own_dg hn63_; have e4 := own_sg x_; simp only [List.length_append, List.length_nil] at *; omega) (Ne.symm (ne102 b7_0 sf164).2) (Ne.symm (ne102 b1 sf165).2) (Ne.symm (ne102 b1 sf165).1) (Ne.symm (ne102 b7_0 sf164).1) f166 hs_COMPACT_STRINGS) (by decide) (W := 0) (by decide) (by decide) (by decide) e102 (by rw [hml]; rfl) (argsL := [(.ref a102)]) (lenOf own_pd23 rfl) (rest := []) rfl rfl (Nat.le_of_eq rfl) (hb hby dc8_21) ?_
  intro _ T158 L158 X158 hQ158
  have f168 := ((f100.keep K96).ext E102)
  obtain ⟨rfl, N158q, K158, f158_0, f158_1, f158_2, f158_3⟩ := hQ158
  have N158 := Fr.app N96 N158q
  have hh169 : own_hs (own_ins w96_0 (own_lb own_tx1) ((([] : List Int32) ++ own_tx0) ++ own_dec nN_ x_).length) (((([] : List Int32) ++ own_tx0) ++ own_dec nN_ x_) ++ own_tx1) := own_ins_hs hx96_1 (by rw [(show w96_0.length = 16 from hx96_0)]; have e0 : (own_tx0).length = 5 := rfl; have e1 : (own_tx1).length = 2 := rfl; have e2 := own_dec_len nN_ x_; have e3 := own_dg hn63_; have e4 := own_sg x_; simp only [List.length_append, List.length_nil] at *; omega)
  have hv170 : (own_ins w96_0 (own_lb own_tx1) ((([] : List Int32) ++ own_tx0) ++ own_dec nN_ x_).length).length = 16 := (own_ins_len (by rw [own_lb_len, (show w96_0.length = 16 from hx96_0)]; have e0 : (own_tx0).length = 5 := rfl; have e1 : (own_tx1).length = 2 := rfl; have e2 := own_dec_len nN_ x_; have e3 := own_dg hn63_; have e4 := own_sg x_; simp only [List.length_append, List.length_nil] at *; omega)).trans (show w96_0.length = 16 from hx96_0)
  have hcn171 : Int32.ofNat (((([] : List Int32) ++ own_tx0) ++ own_dec nN_ x_) ++ own_tx1).length = ((Int32.ofNat ((([] : List Int32) ++ own_tx0).length + (Jvm.Free.SBG.digitsL nN_ + Jvm.Free.SBG.GetCharsL.sgnL x_))) + (2 : Int32)) := (own_ccn hcn101 rfl)
  show oG p e below _ (T158.setTop (mkF m 24 #[sR rr_] [(.ref b1)]))
  refine og (fun _ hr => XS.aloadN X158.here hx rfl (hb hby dc8_24) rfl rfl hr) ?_
  show oG p e below _ (T158.setTop (mkF m 25 #[sR rr_] [(.ref rr_), (.ref b1)]))
  have K172 := (((K33.trans K96 (allS (Or.inr sz3) (allS (Or.inr sz10) all0))).ext E102).trans K158 (allS (Or.inr sz3) (allS (Or.inr sz10) all0)))
  have f173 := (Rr_.keep K172 nin0)
  obtain ⟨T174, X174, e174, st174⟩ := getF X158 hx hZ hown (host := "") (Or.inl (hw _ (own_m 39 rfl))) Via.refl rfl f173 (g := (mkF m 25 #[sR rr_] [(.ref rr_), (.ref b1)])) rfl rfl (hb hby dc8_25)
  refine og st174 ?_
  show oG p e below _ (T174.setTop (mkF m 28 #[sR rr_] [(.ref s_), (.ref b1)]))
  rcases Nat.lt_or_ge 16 ((((([] : List Int32) ++ own_tx0) ++ own_dec nN_ x_) ++ own_tx1).length + ds_.length) with qg175 | qg175
  · skip
    have f177 := (f159.keep K158)
    have f178 := (Es_.keep K172)
    have f179 := (Cs_.keep K172 nin0)
    have f180 := (Vs_.keep K172 nin0)
    have f181 := (Kt_.keep K172 nin0)
    have f182 := (own_sta_keep f166 K158 (allS (own_ns_exa f159) (allS (own_ns_exa f168) all0)))
    have Z183 := (Nat.le_trans Z167 K158.1)
    refine own_cv X174 hx hZ hown (notFace_of_selects (args := #[]) (mvT hZ (hw _ (own_m 70 rfl)))) (hw _ (own_m 67 rfl)) (hw _ (own_m 68 rfl)) (hw _ (own_m 70 rfl)) (hw _ (own_m 69 rfl)) (hw _ (own_m 48 rfl)) (hw _ (own_m 71 rfl)) (by decide) f177 (rm := { frames := 5, cells := 1, slots := 34, locals := 83 }) (rm_sag l Z a0 hw [] b1 ((Int32.ofNat ((([] : List Int32) ++ own_tx0).length + (Jvm.Free.SBG.digitsL nN_ + Jvm.Free.SBG.GetCharsL.sgnL x_))) + (2 : Int32)) (((([] : List Int32) ++ own_tx0) ++ own_dec nN_ x_) ++ own_tx1) s_ t_ kt_ nn_ ds_ b7_0 kb7_0 (own_ins w96_0 (own_lb own_tx1) ((([] : List Int32) ++ own_tx0) ++ own_dec nN_ x_).length) i_COMPACT_STRINGS T158.heap n0 Z183 f177 f158_0 f158_1 f158_2 f178 f179 f180 f181 f158_3 hnn_ (Nat.le_trans hdl3_ (by decide)) hcd_ hbx_ hcn171 (by have e0 : (own_tx0).length = 5 := rfl; have e1 : (own_tx1).length = 2 := rfl; have e2 := own_dec_len nN_ x_; have e3 := own_dg hn63_; have e4 := own_sg x_; simp only [List.length_append, List.length_nil] at *; omega) ge2 ge7_0 (Nat.ne_of_lt (Nat.lt_of_lt_of_le A1.lt sz7_0)) (by have e0 : (own_tx0).length = 5 := rfl; have e1 : (own_tx1).length = 2 := rfl; have e2 := own_dec_len nN_ x_; have e3 := own_dg hn63_; have e4 := own_sg x_; simp only [List.length_append, List.length_nil] at *; omega) qg175 (Nat.ne_of_lt (Nat.lt_of_lt_of_le (Kt_.ext E1).lt sz7_0)) (Nat.ne_of_lt (Nat.lt_of_lt_of_le Kt_.lt (Nat.le_of_eq g1.symm))) (Nat.ne_of_lt (Nat.lt_of_lt_of_le Es_.lt (Nat.le_of_eq g1.symm))) (Nat.ne_of_lt (Nat.lt_of_lt_of_le (Es_.ext E1).lt sz7_0)) f182 hs_COMPACT_STRINGS) (by decide) (W := 0) (by decide) (by decide) (by decide) e174 (by rw [hml]; rfl) (argsL := [(.ref s_)]) (lenOf own_pd23 rfl) (rest := []) rfl rfl (Nat.le_of_eq rfl) (hb hby dc8_28) ?_
    intro _ T176 L176 X176 hQ176
    obtain ⟨b176_0, kb176_0, rfl, N176q, K176, ge176_0, sz176_0, f176_0, f176_1, f176_2, f176_3, f176_4⟩ := hQ176
    have N176 := Fr.app N158 N176q
    have sz184 : h0.size ≤ b176_0 := Nat.le_trans K172.1 sz176_0
    have hh185 : own_hs (own_ins (own_grow (own_ins w96_0 (own_lb own_tx1) ((([] : List Int32) ++ own_tx0) ++ own_dec nN_ x_).length)) (own_lb ds_) (((([] : List Int32) ++ own_tx0) ++ own_dec nN_ x_) ++ own_tx1).length) ((((([] : List Int32) ++ own_tx0) ++ own_dec nN_ x_) ++ own_tx1) ++ ds_) := own_ins_hs (own_grow_hs hh169 (by have e0 : (own_tx0).length = 5 := rfl; have e1 : (own_tx1).length = 2 := rfl; have e2 := own_dec_len nN_ x_; have e3 := own_dg hn63_; have e4 := own_sg x_; simp only [List.length_append, List.length_nil] at *; omega)) (by rw [(own_grow_len _)]; have e0 : (own_tx0).length = 5 := rfl; have e1 : (own_tx1).length = 2 := rfl; have e2 := own_dec_len nN_ x_; have e3 := own_dg hn63_; have e4 := own_sg x_; simp only [List.length_append, List.length_nil] at *; omega)
    have hv186 : (own_ins (own_grow (own_ins w96_0 (own_lb own_tx1) ((([] : List Int32) ++ own_tx0) ++ own_dec nN_ x_).length)) (own_lb ds_) (((([] : List Int32) ++ own_tx0) ++ own_dec nN_ x_) ++ own_tx1).length).length = 34 := (own_ins_len (by rw [own_lb_len, (own_grow_len _)]; have e0 : (own_tx0).length = 5 := rfl; have e1 : (own_tx1).length = 2 := rfl; have e2 := own_dec_len nN_ x_; have e3 := own_dg hn63_; have e4 := own_sg x_; simp only [List.length_append, List.length_nil] at *; omega)).trans (own_grow_len _)
    have hcn187 : Int32.ofNat ((((([] : List Int32) ++ own_tx0) ++ own_dec nN_ x_) ++ own_tx1) ++ ds_).length = (((Int32.ofNat ((([] : List Int32) ++ own_tx0).length + (Jvm.Free.SBG.digitsL nN_ + Jvm.Free.SBG.GetCharsL.sgnL x_))) + (2 : Int32)) + nn_) := (own_ccn hcn171 hnn_)
    show oG p e below _ (T176.setTop (mkF m 31 #[sR rr_] [(.ref b1)]))
    have f189 := (f177.keep K176)
    have f190 := (own_sta_keep f182 K176 (allS (own_ns_exa f177) all0))
    have Z191 := (Nat.le_trans Z183 K176.1)
    refine own_cv X176 hx hZ hown (notFace_of_selects (args := #[]) (mvT hZ (hw _ (own_m 143 rfl)))) (hw _ (own_m 140 rfl)) (hw _ (own_m 141 rfl)) (hw _ (own_m 143 rfl)) (hw _ (own_m 142 rfl)) (hw _ (own_m 48 rfl)) (hw _ (own_m 144 rfl)) (by decide) f189 (rm := { frames := 5, cells := 2, slots := 44, locals := 101 }) (rm_ts34x l Z a0 hw [] b1 (((Int32.ofNat ((([] : List Int32) ++ own_tx0).length + (Jvm.Free.SBG.digitsL nN_ + Jvm.Free.SBG.GetCharsL.sgnL x_))) + (2 : Int32)) + nn_) ((((([] : List Int32) ++ own_tx0) ++ own_dec nN_ x_) ++ own_tx1) ++ ds_) b176_0 kb176_0 (own_ins (own_grow (own_ins w96_0 (own_lb own_tx1) ((([] : List Int32) ++ own_tx0) ++ own_dec nN_ x_).length)) (own_lb ds_) (((([] : List Int32) ++ own_tx0) ++ own_dec nN_ x_) ++ own_tx1).length) i_COMPACT_STRINGS T176.heap n0 Z191 f189 f176_1 f176_2 f176_3 f176_4 f176_0 hcn187 hh185 hv186 (by have e0 : (own_tx0).length = 5 := rfl; have e1 : (own_tx1).length = 2 := rfl; have e2 := own_dec_len nN_ x_; have e3 := own_dg hn63_; have e4 := own_sg x_; simp only [List.length_append, List.length_nil] at *; omega) f190 hs_COMPACT_STRINGS) (by decide) (W := 0) (by decide) (by decide) (by decide) rfl (by rw [hml]; rfl) (argsL := []) (lenOf own_pd25 rfl) (rest := []) rfl rfl (Nat.le_of_eq rfl) (hb hby dc8_31) ?_
    intro _ T188 L188 X188 hQ188
    obtain ⟨b188_0, b188_1, kb188_0, rfl, N188q, K188, ge188_0, sz188_0, ge188_1, sz188_1, ne188_0, f188_0, f188_1, f188_2, f188_3⟩ := hQ188
    have N188 := Fr.app N176 N188q
    have K193 := (K172.trans K176 (allS (Or.inr sz3) all0))
    have sz192 : h0.size ≤ b188_0 := Nat.le_trans K193.1 sz188_0
    have sz194 : h0.size ≤ b188_1 := Nat.le_trans K193.1 sz188_1
    show oG p e below _ (T188.setTop (mkF m 34 #[sR rr_] [(.ref b188_0)]))
    have K195 := (K193.trans K188 all0)
    have hk196 := (Nat.le_trans (Nat.le_trans (Nat.le_trans hk102 K158.1) K176.1) K188.1)
    have A197 := A105.trans Al102
    have A198 := A197.trans (CHr.keep K158 (sfS sf165 (sfS sf164 sf0)) A197.1)
    have sf200 := (Safe.keep K158 (sfS sf165 (sfS sf164 sf0)) A197.1 sf165)
    have A199 := A198.trans (CHr.keep K176 (sfS sf200 sf0) A198.1)
    have A201 := A199.trans (CHr.keep K188 sf0 A199.1)
    exact own_retRW X188 hx hlk Bd.returns hS hk196 hZ hEL hh rfl A201 rfl rfl (hb hby dc8_34) (by decide) (by decide) (by exact ⟨b188_0, b188_1, kb188_0, rfl, N188, K195, ge188_0, sz192, f188_0, f188_1, f188_2, (by have q := f188_3; rw [← hcn187] at q; exact q)⟩)
  have f203 := (f159.keep K158)
  have f204 := (Es_.keep K172)
  have f205 := (Cs_.keep K172 nin0)
  have f206 := (Vs_.keep K172 nin0)
  have f207 := (Kt_.keep K172 nin0)
  have f208 := (own_sta_keep f166 K158 (allS (own_ns_exa f159) (allS (own_ns_exa f168) all0)))
  have Z209 := (Nat.le_trans Z167 K158.1)
  refine own_cv X174 hx hZ hown (notFace_of_selects (args := #[]) (mvT hZ (hw _ (own_m 70 rfl)))) (hw _ (own_m 67 rfl)) (hw _ (own_m 68 rfl)) (hw _ (own_m 70 rfl)) (hw _ (own_m 69 rfl)) (hw _ (own_m 48 rfl)) (hw _ (own_m 71 rfl)) (by decide) f203 (rm := { frames := 4, cells := 0, slots := 0, locals := 83 }) (rm_san l Z a0 hw [] b1 ((Int32.ofNat ((([] : List Int32) ++ own_tx0).length + (Jvm.Free.SBG.digitsL nN_ + Jvm.Free.SBG.GetCharsL.sgnL x_))) + (2 : Int32)) (((([] : List Int32) ++ own_tx0) ++ own_dec nN_ x_) ++ own_tx1) s_ t_ kt_ nn_ ds_ b7_0 kb7_0 (16 : Int32) (own_ins w96_0 (own_lb own_tx1) ((([] : List Int32) ++ own_tx0) ++ own_dec nN_ x_).length) i_COMPACT_STRINGS T158.heap n0 Z209 f203 f158_0 f158_1 f158_2 f204 f205 f206 f207 f158_3 hnn_ (Nat.le_trans hdl3_ (by decide)) hcd_ hbx_ hcn171 (by have e0 : (own_tx0).length = 5 := rfl; have e1 : (own_tx1).length = 2 := rfl; have e2 := own_dec_len nN_ x_; have e3 := own_dg hn63_; have e4 := own_sg x_; simp only [List.length_append, List.length_nil] at *; omega) ge2 ge7_0 (Nat.ne_of_lt (Nat.lt_of_lt_of_le A1.lt sz7_0)) hv170 (by decide) (by decide) (show (((([] : List Int32) ++ own_tx0) ++ own_dec nN_ x_) ++ own_tx1).length + ds_.length ≤ 16 from by have e0 : (own_tx0).length = 5 := rfl; have e1 : (own_tx1).length = 2 := rfl; have e2 := own_dec_len nN_ x_; have e3 := own_dg hn63_; have e4 := own_sg x_; simp only [List.length_append, List.length_nil] at *; omega) (Nat.ne_of_lt (Nat.lt_of_lt_of_le (Kt_.ext E1).lt sz7_0)) (Nat.ne_of_lt (Nat.lt_of_lt_of_le Kt_.lt (Nat.le_of_eq g1.symm))) (Nat.ne_of_lt (Nat.lt_of_lt_of_le Es_.lt (Nat.le_of_eq g1.symm))) (Nat.ne_of_lt (Nat.lt_of_lt_of_le (Es_.ext E1).lt sz7_0)) f208 hs_COMPACT_STRINGS) (by decide) (W := 0) (by decide) (by decide) (by decide) e174 (by rw [hml]; rfl) (argsL := [(.ref s_)]) (lenOf own_pd23 rfl) (rest := []) rfl rfl (Nat.le_of_eq rfl) (hb hby dc8_28) ?_
  intro _ T202 L202 X202 hQ202
  have f210 := (f168.keep K158)
  obtain ⟨rfl, N202q, K202, f202_0, f202_1, f202_2, f202_3⟩ := hQ202
  have N202 := Fr.app N158 N202q
  have hh211 : own_hs (own_ins (own_ins w96_0 (own_lb own_tx1) ((([] : List Int32) ++ own_tx0) ++ own_dec nN_ x_).length) (own_lb ds_) (((([] : List Int32) ++ own_tx0) ++ own_dec nN_ x_) ++ own_tx1).length) ((((([] : List Int32) ++ own_tx0) ++ own_dec nN_ x_) ++ own_tx1) ++ ds_) := own_ins_hs hh169 (by rw [hv170]; have e0 : (own_tx0).length = 5 := rfl; have e1 : (own_tx1).length = 2 := rfl; have e2 := own_dec_len nN_ x_; have e3 := own_dg hn63_; have e4 := own_sg x_; simp only [List.length_append, List.length_nil] at *; omega)
  have hv212 : (own_ins (own_ins w96_0 (own_lb own_tx1) ((([] : List Int32) ++ own_tx0) ++ own_dec nN_ x_).length) (own_lb ds_) (((([] : List Int32) ++ own_tx0) ++ own_dec nN_ x_) ++ own_tx1).length).length = 16 := (own_ins_len (by rw [own_lb_len, hv170]; have e0 : (own_tx0).length = 5 := rfl; have e1 : (own_tx1).length = 2 := rfl; have e2 := own_dec_len nN_ x_; have e3 := own_dg hn63_; have e4 := own_sg x_; simp only [List.length_append, List.length_nil] at *; omega)).trans hv170
  have hcn213 : Int32.ofNat ((((([] : List Int32) ++ own_tx0) ++ own_dec nN_ x_) ++ own_tx1) ++ ds_).length = (((Int32.ofNat ((([] : List Int32) ++ own_tx0).length + (Jvm.Free.SBG.digitsL nN_ + Jvm.Free.SBG.GetCharsL.sgnL x_))) + (2 : Int32)) + nn_) := (own_ccn hcn171 hnn_)
  show oG p e below _ (T202.setTop (mkF m 31 #[sR rr_] [(.ref b1)]))
  have f215 := (f203.keep K202)
  have f216 := (f210.keep K202)
  have f217 := (own_sta_keep f208 K202 (allS (own_ns_exa f203) (allS (own_ns_exa f210) all0)))
  have Z218 := (Nat.le_trans Z209 K202.1)
  refine own_cv X202 hx hZ hown (notFace_of_selects (args := #[]) (mvT hZ (hw _ (own_m 143 rfl)))) (hw _ (own_m 140 rfl)) (hw _ (own_m 141 rfl)) (hw _ (own_m 143 rfl)) (hw _ (own_m 142 rfl)) (hw _ (own_m 48 rfl)) (hw _ (own_m 144 rfl)) (by decide) f215 (rm := { frames := 5, cells := 2, slots := 44, locals := 101 }) (rm_ts16x l Z a0 hw [] b1 (((Int32.ofNat ((([] : List Int32) ++ own_tx0).length + (Jvm.Free.SBG.digitsL nN_ + Jvm.Free.SBG.GetCharsL.sgnL x_))) + (2 : Int32)) + nn_) ((((([] : List Int32) ++ own_tx0) ++ own_dec nN_ x_) ++ own_tx1) ++ ds_) b7_0 kb7_0 (own_ins (own_ins w96_0 (own_lb own_tx1) ((([] : List Int32) ++ own_tx0) ++ own_dec nN_ x_).length) (own_lb ds_) (((([] : List Int32) ++ own_tx0) ++ own_dec nN_ x_) ++ own_tx1).length) i_COMPACT_STRINGS T202.heap n0 Z218 f215 f202_0 f202_1 f202_2 f202_3 f216 hcn213 hh211 hv212 (by have e0 : (own_tx0).length = 5 := rfl; have e1 : (own_tx1).length = 2 := rfl; have e2 := own_dec_len nN_ x_; have e3 := own_dg hn63_; have e4 := own_sg x_; simp only [List.length_append, List.length_nil] at *; omega) f217 hs_COMPACT_STRINGS) (by decide) (W := 0) (by decide) (by decide) (by decide) rfl (by rw [hml]; rfl) (argsL := []) (lenOf own_pd25 rfl) (rest := []) rfl rfl (Nat.le_of_eq rfl) (hb hby dc8_31) ?_
  intro _ T214 L214 X214 hQ214
  obtain ⟨b214_0, b214_1, kb214_0, rfl, N214q, K214, ge214_0, sz214_0, ge214_1, sz214_1, ne214_0, f214_0, f214_1, f214_2, f214_3⟩ := hQ214
  have N214 := Fr.app N202 N214q
  have K220 := (K172.trans K202 (allS (Or.inr sz3) (allS (Or.inr sz10) all0)))
  have sz219 : h0.size ≤ b214_0 := Nat.le_trans K220.1 sz214_0
  have sz221 : h0.size ≤ b214_1 := Nat.le_trans K220.1 sz214_1
  show oG p e below _ (T214.setTop (mkF m 34 #[sR rr_] [(.ref b214_0)]))
  have K222 := (K220.trans K214 all0)
  have hk223 := (Nat.le_trans (Nat.le_trans (Nat.le_trans hk102 K158.1) K202.1) K214.1)
  have A224 := A105.trans Al102
  have A225 := A224.trans (CHr.keep K158 (sfS sf165 (sfS sf164 sf0)) A224.1)
  have sf227 := (Safe.keep K158 (sfS sf165 (sfS sf164 sf0)) A224.1 sf164)
  have sf228 := (Safe.keep K158 (sfS sf165 (sfS sf164 sf0)) A224.1 sf165)
  have A226 := A225.trans (CHr.keep K202 (sfS sf228 (sfS sf227 sf0)) A225.1)
  have A229 := A226.trans (CHr.keep K214 sf0 A226.1)
  exact own_retRW X214 hx hlk Bd.returns hS hk223 hZ hEL hh rfl A229 rfl rfl (hb hby dc8_34) (by decide) (by decide) (by exact ⟨b214_0, b214_1, kb214_0, rfl, N214, K222, ge214_0, sz219, f214_0, f214_1, f214_2, (by have q := f214_3; rw [← hcn213] at q; exact q)⟩)
theorem own_mlen (n : Nat) (x : Int64) (ds : List Int32) : (own_msg n x ds).length = 7 + (Jvm.Free.SBG.digitsL n + Jvm.Free.SBG.GetCharsL.sgnL x) + ds.length := by
  unfold own_msg; simp only [List.length_append, own_dec_len, List.length_nil]; have e0 : (own_tx0).length = 5 := rfl; have e1 : (own_tx1).length = 2 := rfl; omega
theorem own_mlat {n : Nat} {x : Int64} {ds : List Int32} (hd : ∀ c ∈ ds, ¬ c < 0 ∧ ¬ (255 : Int32) < c) : ∀ c ∈ own_msg n x ds, ¬ c < 0 ∧ ¬ (255 : Int32) < c := fun c hc => by
  unfold own_msg at hc
  rcases List.mem_append.mp hc with hc | hc
  · rcases List.mem_append.mp hc with hc | hc
    · rcases List.mem_append.mp hc with hc | hc
      · have k : ∀ c ∈ ([] : List Int32) ++ own_tx0, ¬ c < 0 ∧ ¬ (255 : Int32) < c := by decide +kernel
        exact k c hc
      · unfold own_dec at hc
        rcases List.mem_append.mp hc with hc | hc
        · by_cases h : x < 0
          · simp [h] at hc; subst hc; decide
          · simp [h] at hc
        · obtain ⟨j, -, rfl⟩ := List.mem_map.mp hc
          have k : ∀ d, d < 10 → ¬ Int32.ofNat (48 + d) < 0 ∧ ¬ (255 : Int32) < Int32.ofNat (48 + d) := by decide +kernel
          exact k _ (Nat.mod_lt _ (by decide))
    · have k : ∀ c ∈ own_tx1, ¬ c < 0 ∧ ¬ (255 : Int32) < c := by decide +kernel
      exact k c hc
  · exact hd c hc
theorem own_m16 {a k : Nat} {y : Int32} (hk : Int32.ofNat k = y) (ha : a ≤ 40) (hk3 : k ≤ 3) : Int32.ofNat a = Int32.ofNat (7 + a + k) - (7 : Int32) - y := by
  have e1 := (own_tnat (a := a) rfl (by omega)).2.2; have e2 := (own_tnat (a := 7 + a + k) rfl (by omega)).2.2; have e3 := (own_tnat hk (by omega)).2.2
  have d1 := c_isub (Int32.ofNat (7 + a + k)) 7; have d2 := c_isub (Int32.ofNat (7 + a + k) - 7) y; have r1 := rng32 (Int32.ofNat (7 + a + k) - 7); have r2 := rng32 (Int32.ofNat (7 + a + k) - 7 - y)
  apply Int32.toInt_inj.mp
  simp only [Int32.reduceToInt] at d1
  omega
theorem own_m18 {a : Nat} {d : Int32} (h : Int32.ofNat (a + 1) = d) (ha : a ≤ 40) : Int32.ofNat a = d - (1 : Int32) := by
  have e1 := (own_tnat (a := a) rfl (by omega)).2.2; have e3 := (own_tnat h (by omega)).2.2
  have d1 := c_isub d 1; have r1 := rng32 (d - 1)
  apply Int32.toInt_inj.mp
  simp only [Int32.reduceToInt] at d1
  omega
theorem own_ms_l {n : Nat} {x : Int64} {ds : List Int32} : (own_msg n x ds).getD 0 0 = 108 ∧ (own_msg n x ds).getD 1 0 = 105 ∧ (own_msg n x ds).getD 2 0 = 110 ∧ (own_msg n x ds).getD 3 0 = 101 ∧ (own_msg n x ds).getD 4 0 = 32 := ⟨rfl, rfl, rfl, rfl, rfl⟩
theorem own_ms_d {n : Nat} {x : Int64} {ds : List Int32} {j : Nat} (h : j < Jvm.Free.SBG.digitsL n + Jvm.Free.SBG.GetCharsL.sgnL x) : (own_msg n x ds).getD (5 + j) 0 = (own_dec n x).getD j 0 := by
  unfold own_msg
  have e0 : (([] : List Int32) ++ own_tx0).length = 5 := rfl
  have e1 := own_dec_len n x
  simp only [List.getD_eq_getElem?_getD]
  rw [List.append_assoc, List.append_assoc, List.getElem?_append_right (by omega), e0, show 5 + j - 5 = j from by omega, List.getElem?_append_left (by omega)]
theorem own_ms_t {n : Nat} {x : Int64} {ds : List Int32} {j : Nat} (h : j < 2) : (own_msg n x ds).getD (5 + (Jvm.Free.SBG.digitsL n + Jvm.Free.SBG.GetCharsL.sgnL x) + j) 0 = (own_tx1).getD j 0 := by
  unfold own_msg
  have e0 : (([] : List Int32) ++ own_tx0).length = 5 := rfl
  have e1 := own_dec_len n x
  have e2 : (own_tx1).length = 2 := rfl
  simp only [List.getD_eq_getElem?_getD]
  rw [List.append_assoc, List.getElem?_append_right (by rw [List.length_append]; omega), List.length_append, e0, e1, show 5 + (Jvm.Free.SBG.digitsL n + Jvm.Free.SBG.GetCharsL.sgnL x) + j - (5 + (Jvm.Free.SBG.digitsL n + Jvm.Free.SBG.GetCharsL.sgnL x)) = j from by omega, List.getElem?_append_left (by omega)]
theorem own_ms_r {n : Nat} {x : Int64} {ds : List Int32} {j : Nat} : (own_msg n x ds).getD (7 + (Jvm.Free.SBG.digitsL n + Jvm.Free.SBG.GetCharsL.sgnL x) + j) 0 = ds.getD j 0 := by
  unfold own_msg
  have e0 : (([] : List Int32) ++ own_tx0).length = 5 := rfl
  have e1 := own_dec_len n x
  have e2 : (own_tx1).length = 2 := rfl
  simp only [List.getD_eq_getElem?_getD]
  rw [List.getElem?_append_right (by rw [List.length_append, List.length_append]; omega), List.length_append, List.length_append, e0, e1, e2, show 7 + (Jvm.Free.SBG.digitsL n + Jvm.Free.SBG.GetCharsL.sgnL x) + j - (5 + (Jvm.Free.SBG.digitsL n + Jvm.Free.SBG.GetCharsL.sgnL x) + 2) = j from by omega]
theorem own_ms_n {n : Nat} {x : Int64} {ds : List Int32} (hx : x < 0) : (own_msg n x ds).getD 5 0 = 45 := by
  have h : 0 < Jvm.Free.SBG.digitsL n + Jvm.Free.SBG.GetCharsL.sgnL x := by have := (Jvm.Free.SBG.digitsL_pos n).1; omega
  have e := own_ms_d (ds := ds) h
  rw [Nat.add_zero] at e
  rw [e]; unfold own_dec; simp [hx]
def own_pw (k : Nat) : Int64 := ([1, 10, 100, 1000, 10000, 100000, 1000000, 10000000, 100000000, 1000000000, 10000000000, 100000000000, 1000000000000, 10000000000000, 100000000000000, 1000000000000000, 10000000000000000, 100000000000000000, 1000000000000000000] : List Int64).getD k 0
theorem own_pw_v : ∀ k, k < 19 → (own_pw k).toInt = ((10 ^ k : Nat) : Int) := by decide +kernel
theorem own_xp {x : Int64} {n : Nat} (hn : n ≤ 2 ^ 63) (h : (if x < 0 then x else -x) = Jvm.Free.SBG.negL n) : (x < 0 → x.toInt = -(n : Int)) ∧ (¬ x < 0 → x.toInt = n) := by
  have e := Jvm.Free.SBG.negL_toInt hn
  refine ⟨fun q => ?_, fun q => ?_⟩
  · rw [if_pos q] at h; rw [h]; exact e
  · rw [if_neg q] at h
    have d := c_lneg x; have r := rng64 x; have r2 := rng64 (-x)
    rw [h] at d r2
    simp only [Int64.lt_iff_toInt_lt, Int64.reduceToInt] at q
    omega
theorem own_dgP {x P : Int64} {n M : Nat} (hx : x.toInt = n) (hM : P.toInt = M) (h1 : 1 ≤ M) : (((48 : Int32) + ((((x / P) - ((x / P) / (10 : Int64)) * (10 : Int64))).toInt32)).toUInt32.toUInt16.toUInt32.toInt32) = Int32.ofNat (48 + n / M % 10) := by
  have hA : (x / P).toInt = ((n / M : Nat) : Int) := by
    rw [Int64.toInt_div_of_ne_right _ _ (fun q => by rw [q] at hM; have e : (-1 : Int64).toInt = -1 := (by decide); omega), hx, hM, Int.tdiv_eq_ediv_of_nonneg (by omega)]; rfl
  generalize x / P = A at hA ⊢
  generalize n / M = q at hA ⊢
  have r0 := rng64 A
  have d1 := c_ldiv A (10 : Int64) 10 (by decide) (by decide); have d2 := c_lmul (A / (10 : Int64)) (10 : Int64); have d3 := c_lsub A ((A / (10 : Int64)) * (10 : Int64)); have r1 := rng64 ((A / (10 : Int64)) * (10 : Int64)); have r2 := rng64 (A - (A / (10 : Int64)) * (10 : Int64))
  have d4 := c_l2i (A - (A / (10 : Int64)) * (10 : Int64)); have r3 := rng32 ((A - (A / (10 : Int64)) * (10 : Int64)).toInt32); have d5 := c_iadd (48 : Int32) ((A - (A / (10 : Int64)) * (10 : Int64)).toInt32); have r4 := rng32 ((48 : Int32) + (A - (A / (10 : Int64)) * (10 : Int64)).toInt32); have d6 := c_i2c ((48 : Int32) + (A - (A / (10 : Int64)) * (10 : Int64)).toInt32)
  have e := (own_tnat (a := 48 + q % 10) rfl (by omega)).2.2
  apply Int32.toInt_inj.mp
  simp only [Int32.reduceToInt, Int64.reduceToInt] at d1 d2 d3 d4 d5 d6
  omega
theorem own_dgN {x P : Int64} {n M : Nat} (hx : x.toInt = -(n : Int)) (hn : n ≤ 2 ^ 63) (hM : P.toInt = M) (h1 : 1 ≤ M) : (((48 : Int32) + ((-(((x / P) - ((x / P) / (10 : Int64)) * (10 : Int64)))).toInt32)).toUInt32.toUInt16.toUInt32.toInt32) = Int32.ofNat (48 + n / M % 10) := by
  have hA : (x / P).toInt = -((n / M : Nat) : Int) := by
    rw [Int64.toInt_div_of_ne_right _ _ (fun q => by rw [q] at hM; have e : (-1 : Int64).toInt = -1 := (by decide); omega), hx, hM, Int.neg_tdiv, Int.tdiv_eq_ediv_of_nonneg (by omega)]; rfl
  generalize x / P = A at hA ⊢
  generalize n / M = q at hA ⊢
  have r0 := rng64 A
  have d1 := c_ldiv A (10 : Int64) 10 (by decide) (by decide); have d2 := c_lmul (A / (10 : Int64)) (10 : Int64); have d3 := c_lsub A ((A / (10 : Int64)) * (10 : Int64)); have r1 := rng64 ((A / (10 : Int64)) * (10 : Int64)); have r2 := rng64 (A - (A / (10 : Int64)) * (10 : Int64))
  have d7 := c_lneg (A - (A / (10 : Int64)) * (10 : Int64)); have r7 := rng64 (-(A - (A / (10 : Int64)) * (10 : Int64)))
  have d4 := c_l2i (-(A - (A / (10 : Int64)) * (10 : Int64))); have r3 := rng32 ((-(A - (A / (10 : Int64)) * (10 : Int64))).toInt32); have d5 := c_iadd (48 : Int32) ((-(A - (A / (10 : Int64)) * (10 : Int64))).toInt32); have r4 := rng32 ((48 : Int32) + (-(A - (A / (10 : Int64)) * (10 : Int64))).toInt32); have d6 := c_i2c ((48 : Int32) + (-(A - (A / (10 : Int64)) * (10 : Int64))).toInt32)
  have e := (own_tnat (a := 48 + q % 10) rfl (by omega)).2.2
  apply Int32.toInt_inj.mp
  simp only [Int32.reduceToInt, Int64.reduceToInt] at d1 d2 d3 d4 d5 d6
  omega
theorem own_jr {x nd : Int32} (hx : ¬ x < 0) (h1 : ¬ nd < 1) : ¬ x % nd < 0 ∧ x % nd < nd ∧ nd ≠ 0 := by
  simp only [Int32.lt_iff_toInt_lt, Int32.reduceToInt] at hx h1
  have e : (x % nd).toInt = x.toInt.tmod nd.toInt := Int32.toInt_mod x nd
  have a := Int.tmod_nonneg nd.toInt (show 0 ≤ x.toInt by omega)
  have b := Int.tmod_lt_of_pos x.toInt (show 0 < nd.toInt by omega)
  refine ⟨?_, ?_, fun q => by rw [q] at h1; exact h1 (by decide)⟩
  · simp only [Int32.lt_iff_toInt_lt, Int32.reduceToInt]; omega
  · simp only [Int32.lt_iff_toInt_lt]; omega
theorem own_jN {j nd : Int32} {D : Nat} (h0 : ¬ j < 0) (h1 : j < nd) (hD : Int32.ofNat D = nd) (h19 : D ≤ 19) : Int32.ofNat j.toNatClampNeg = j ∧ j.toNatClampNeg < D := by
  have e := (own_tnat hD (by omega)).2.2
  simp only [Int32.lt_iff_toInt_lt, Int32.reduceToInt] at h0 h1
  have q : (j.toNatClampNeg : Int) = j.toInt := by simp only [Int32.toNatClampNeg]; omega
  refine ⟨?_, by omega⟩
  apply Int32.toInt_inj.mp
  rw [(own_tnat (a := j.toNatClampNeg) rfl (by omega)).2.2]; exact q
theorem own_pwa {k : Nat} (h : k < 19) : ([(.long (1 : Int64)), (.long (10 : Int64)), (.long (100 : Int64)), (.long (1000 : Int64)), (.long (10000 : Int64)), (.long (100000 : Int64)), (.long (1000000 : Int64)), (.long (10000000 : Int64)), (.long (100000000 : Int64)), (.long (1000000000 : Int64)), (.long (10000000000 : Int64)), (.long (100000000000 : Int64)), (.long (1000000000000 : Int64)), (.long (10000000000000 : Int64)), (.long (100000000000000 : Int64)), (.long (1000000000000000 : Int64)), (.long (10000000000000000 : Int64)), (.long (100000000000000000 : Int64)), (.long (1000000000000000000 : Int64))] : List Value).getD k (.long (0 : Int64)) = .long (own_pw k) := by
  have q : k = 0 ∨ k = 1 ∨ k = 2 ∨ k = 3 ∨ k = 4 ∨ k = 5 ∨ k = 6 ∨ k = 7 ∨ k = 8 ∨ k = 9 ∨ k = 10 ∨ k = 11 ∨ k = 12 ∨ k = 13 ∨ k = 14 ∨ k = 15 ∨ k = 16 ∨ k = 17 ∨ k = 18 := by omega
  rcases q with rfl | rfl | rfl | rfl | rfl | rfl | rfl | rfl | rfl | rfl | rfl | rfl | rfl | rfl | rfl | rfl | rfl | rfl | rfl <;> rfl
theorem own_pwz : ∀ k, k < 19 → own_pw k ≠ (0 : Int64) := by decide +kernel
theorem dc39_0 : decode method_2_code 0 = .ok (.bipush 19, 2) := by decide +kernel
theorem dc39_2 : decode method_2_code 2 = .ok (.newarray .long, 2) := by decide +kernel
theorem dc39_4 : decode method_2_code 4 = .ok (.dup, 1) := by decide +kernel
theorem dc39_5 : decode method_2_code 5 = .ok (.iconst 0, 1) := by decide +kernel
theorem dc39_6 : decode method_2_code 6 = .ok (.lconst 1, 1) := by decide +kernel
theorem dc39_7 : decode method_2_code 7 = .ok (.lastore, 1) := by decide +kernel
theorem dc39_8 : decode method_2_code 8 = .ok (.dup, 1) := by decide +kernel
theorem dc39_9 : decode method_2_code 9 = .ok (.iconst 1, 1) := by decide +kernel
theorem dc39_10 : decode method_2_code 10 = .ok (.ldc2_w 7, 3) := by decide +kernel
theorem dc39_13 : decode method_2_code 13 = .ok (.lastore, 1) := by decide +kernel
theorem dc39_14 : decode method_2_code 14 = .ok (.dup, 1) := by decide +kernel
theorem dc39_15 : decode method_2_code 15 = .ok (.iconst 2, 1) := by decide +kernel
theorem dc39_16 : decode method_2_code 16 = .ok (.ldc2_w 9, 3) := by decide +kernel
theorem dc39_19 : decode method_2_code 19 = .ok (.lastore, 1) := by decide +kernel
theorem dc39_20 : decode method_2_code 20 = .ok (.dup, 1) := by decide +kernel
theorem dc39_21 : decode method_2_code 21 = .ok (.iconst 3, 1) := by decide +kernel
theorem dc39_22 : decode method_2_code 22 = .ok (.ldc2_w 11, 3) := by decide +kernel
theorem dc39_25 : decode method_2_code 25 = .ok (.lastore, 1) := by decide +kernel
theorem dc39_26 : decode method_2_code 26 = .ok (.dup, 1) := by decide +kernel
theorem dc39_27 : decode method_2_code 27 = .ok (.iconst 4, 1) := by decide +kernel
theorem dc39_28 : decode method_2_code 28 = .ok (.ldc2_w 13, 3) := by decide +kernel
theorem dc39_31 : decode method_2_code 31 = .ok (.lastore, 1) := by decide +kernel
theorem dc39_32 : decode method_2_code 32 = .ok (.dup, 1) := by decide +kernel
theorem dc39_33 : decode method_2_code 33 = .ok (.iconst 5, 1) := by decide +kernel
theorem dc39_34 : decode method_2_code 34 = .ok (.ldc2_w 15, 3) := by decide +kernel
theorem dc39_37 : decode method_2_code 37 = .ok (.lastore, 1) := by decide +kernel
theorem dc39_38 : decode method_2_code 38 = .ok (.dup, 1) := by decide +kernel
theorem dc39_39 : decode method_2_code 39 = .ok (.bipush 6, 2) := by decide +kernel
theorem dc39_41 : decode method_2_code 41 = .ok (.ldc2_w 17, 3) := by decide +kernel
theorem dc39_44 : decode method_2_code 44 = .ok (.lastore, 1) := by decide +kernel
theorem dc39_45 : decode method_2_code 45 = .ok (.dup, 1) := by decide +kernel
theorem dc39_46 : decode method_2_code 46 = .ok (.bipush 7, 2) := by decide +kernel
theorem dc39_48 : decode method_2_code 48 = .ok (.ldc2_w 19, 3) := by decide +kernel
theorem dc39_51 : decode method_2_code 51 = .ok (.lastore, 1) := by decide +kernel
theorem dc39_52 : decode method_2_code 52 = .ok (.dup, 1) := by decide +kernel
theorem dc39_53 : decode method_2_code 53 = .ok (.bipush 8, 2) := by decide +kernel
theorem dc39_55 : decode method_2_code 55 = .ok (.ldc2_w 21, 3) := by decide +kernel
theorem dc39_58 : decode method_2_code 58 = .ok (.lastore, 1) := by decide +kernel
theorem dc39_59 : decode method_2_code 59 = .ok (.dup, 1) := by decide +kernel
theorem dc39_60 : decode method_2_code 60 = .ok (.bipush 9, 2) := by decide +kernel
theorem dc39_62 : decode method_2_code 62 = .ok (.ldc2_w 23, 3) := by decide +kernel
theorem dc39_65 : decode method_2_code 65 = .ok (.lastore, 1) := by decide +kernel
theorem dc39_66 : decode method_2_code 66 = .ok (.dup, 1) := by decide +kernel
theorem dc39_67 : decode method_2_code 67 = .ok (.bipush 10, 2) := by decide +kernel
theorem dc39_69 : decode method_2_code 69 = .ok (.ldc2_w 25, 3) := by decide +kernel
theorem dc39_72 : decode method_2_code 72 = .ok (.lastore, 1) := by decide +kernel
theorem dc39_73 : decode method_2_code 73 = .ok (.dup, 1) := by decide +kernel
theorem dc39_74 : decode method_2_code 74 = .ok (.bipush 11, 2) := by decide +kernel
theorem dc39_76 : decode method_2_code 76 = .ok (.ldc2_w 27, 3) := by decide +kernel
theorem dc39_79 : decode method_2_code 79 = .ok (.lastore, 1) := by decide +kernel
theorem dc39_80 : decode method_2_code 80 = .ok (.dup, 1) := by decide +kernel
theorem dc39_81 : decode method_2_code 81 = .ok (.bipush 12, 2) := by decide +kernel
theorem dc39_83 : decode method_2_code 83 = .ok (.ldc2_w 29, 3) := by decide +kernel
theorem dc39_86 : decode method_2_code 86 = .ok (.lastore, 1) := by decide +kernel
theorem dc39_87 : decode method_2_code 87 = .ok (.dup, 1) := by decide +kernel
theorem dc39_88 : decode method_2_code 88 = .ok (.bipush 13, 2) := by decide +kernel
theorem dc39_90 : decode method_2_code 90 = .ok (.ldc2_w 31, 3) := by decide +kernel
theorem dc39_93 : decode method_2_code 93 = .ok (.lastore, 1) := by decide +kernel
theorem dc39_94 : decode method_2_code 94 = .ok (.dup, 1) := by decide +kernel
theorem dc39_95 : decode method_2_code 95 = .ok (.bipush 14, 2) := by decide +kernel
theorem dc39_97 : decode method_2_code 97 = .ok (.ldc2_w 33, 3) := by decide +kernel
theorem dc39_100 : decode method_2_code 100 = .ok (.lastore, 1) := by decide +kernel
theorem dc39_101 : decode method_2_code 101 = .ok (.dup, 1) := by decide +kernel
theorem dc39_102 : decode method_2_code 102 = .ok (.bipush 15, 2) := by decide +kernel
theorem dc39_104 : decode method_2_code 104 = .ok (.ldc2_w 35, 3) := by decide +kernel
theorem dc39_107 : decode method_2_code 107 = .ok (.lastore, 1) := by decide +kernel
theorem dc39_108 : decode method_2_code 108 = .ok (.dup, 1) := by decide +kernel
theorem dc39_109 : decode method_2_code 109 = .ok (.bipush 16, 2) := by decide +kernel
theorem dc39_111 : decode method_2_code 111 = .ok (.ldc2_w 37, 3) := by decide +kernel
theorem dc39_114 : decode method_2_code 114 = .ok (.lastore, 1) := by decide +kernel
theorem dc39_115 : decode method_2_code 115 = .ok (.dup, 1) := by decide +kernel
theorem dc39_116 : decode method_2_code 116 = .ok (.bipush 17, 2) := by decide +kernel
theorem dc39_118 : decode method_2_code 118 = .ok (.ldc2_w 39, 3) := by decide +kernel
theorem dc39_121 : decode method_2_code 121 = .ok (.lastore, 1) := by decide +kernel
theorem dc39_122 : decode method_2_code 122 = .ok (.dup, 1) := by decide +kernel
theorem dc39_123 : decode method_2_code 123 = .ok (.bipush 18, 2) := by decide +kernel
theorem dc39_125 : decode method_2_code 125 = .ok (.ldc2_w 41, 3) := by decide +kernel
theorem dc39_128 : decode method_2_code 128 = .ok (.lastore, 1) := by decide +kernel
theorem dc39_129 : decode method_2_code 129 = .ok (.astore_n 1, 1) := by decide +kernel
theorem dc39_130 : decode method_2_code 130 = .ok (.aload_n 1, 1) := by decide +kernel
theorem dc39_131 : decode method_2_code 131 = .ok (.iload_n 0, 1) := by decide +kernel
theorem dc39_132 : decode method_2_code 132 = .ok (.laload, 1) := by decide +kernel
theorem dc39_133 : decode method_2_code 133 = .ok (.lreturn, 1) := by decide +kernel
theorem own_pn_com_example_strict_tariff_stricttariff_pricing_RefusedReadingMessagePinLaw : plainName "com/example/strict_tariff/stricttariff/pricing/RefusedReadingMessagePinLaw" = true := by first | (simp [plainName, overriddenIn]; done) | decide +kernel
def Q_pow (Z : State) (kN_ : Nat) (h0 : Heap) (n0 : Nat) (v : Option Value) (h : Heap) (L : List Loc) : Prop := v = some (.long (own_pw kN_)) ∧ Fr n0 L ∧ Keep h0 h []
set_option maxRecDepth 65536 in
set_option maxHeartbeats 40000000 in
theorem rm_pow (l : Launch) (Z : State) (a0 : Array Value) (hw : ∀ d ∈ tables_1, d.before a0 Z = true) (ws : List Jvm.Cond) (k_ : Int32) (kN_ : Nat) (h0 : Heap) (n0 : Nat) (Z0 : n0 ≤ h0.size) (hkN_ : Int32.ofNat kN_ = k_) (hk19_ : kN_ < 19) :
    MetFree l (⟨"com/example/strict_tariff/stricttariff/pricing/RefusedReadingMessagePinLaw", "pow10", "(I)J"⟩ : MethodName) (head1 (Jvm.Cond.code (⟨"com/example/strict_tariff/stricttariff/pricing/RefusedReadingMessagePinLaw", "pow10", "(I)J"⟩ : MethodName) method_2_code 2 (some .long) :: ws) ({ frames := 0, cells := 1, slots := 19, locals := 0 } : Room)) (fun aA U => aA = #[(.int k_)] ∧ Z.Warmed39 U.vm ∧ U.heap = h0) (fun _ _ _ _ _ => True) (fun _ U o U' => ∃ v L, o = .returned v ∧ Q_pow Z kN_ h0 n0 v U'.heap L ∧ FrameEnd U o U' L ({ frames := 0, cells := 1, slots := 19, locals := 0 } : Room).cells ({ frames := 0, cells := 1, slots := 19, locals := 0 } : Room).slots) := by
  refine MetFree.of_bodySF (plainFor_of_name own_pn_com_example_strict_tariff_stricttariff_pricing_RefusedReadingMessagePinLaw) hisR ?_
  intro p e s m args below meth c s₁ Bd hml0 hP hK
  obtain ⟨rfl, hZ, hh⟩ := hP
  have hx := Bd.exec
  have hby := Bd.bytes
  have hlk : meth.locks = false := BodyLoose.notSynchronized Bd
  have hml : c.maxLocals = 2 := hml0
  have hown : s.vm.findClass "com/example/strict_tariff/stricttariff/pricing/RefusedReadingMessagePinLaw" = some m.cls := findClass_of_methodNamed Bd.named
  have hnm := (name_of_methodNamed Bd.named Bd.method).1
  have X0 : Stand p l e ({ frames := 0, cells := 1, slots := 19, locals := 0 } : Room) s m #[(.int k_)] below meth c s₁ [] 0 0 := Stand.of_body Bd
  have e0 : s₁.heap = h0 := by rw [← hh, Bd.state]; rfl
  have N0 := Fr.nil n0
  have hq_ := own_tnat hkN_ (by omega)
  have K0 : Keep h0 h0 [] := Keep.refl _ _
  show oG p e below (own_K s (Q_pow Z kN_ h0 n0) ({ frames := 0, cells := 1, slots := 19, locals := 0 } : Room).cells ({ frames := 0, cells := 1, slots := 19, locals := 0 } : Room).slots) (s₁.setTop (entryFrame m #[(.int k_)] 2))
  rw [(by first | (simp [entryFrame, mkF, argsToLocals, Value.category]; done) | rfl : entryFrame m #[(.int k_)] 2 = mkF m 0 #[sI k_, sU] [])]
  show oG p e below _ (s₁.setTop (mkF m 0 #[sI k_, sU] []))
  refine og (fun _ hr => XS.bipush X0.here hx rfl (hb hby dc39_0) hr) ?_
  show oG p e below _ (s₁.setTop (mkF m 2 #[sI k_, sU] [(.int 19)]))
  obtain ⟨T1, h1, k1, X1, e1, E1, A1, EA1, st1⟩ := newPE X0 hx hZ (hw _ (own_m 208 rfl)) e0 (g := (mkF m 2 #[sI k_, sU] [(.int 19)])) rfl (hb hby dc39_2) rfl (by decide) (cap := 19) (by decide) (by decide) (by decide) (by decide) (ad := "[J") (by decide)
  obtain ⟨b1, g1⟩ : ∃ z, z = h0.size := ⟨_, rfl⟩
  rw [← g1] at A1 EA1 st1
  have ge2 : n0 ≤ b1 := Nat.le_trans Z0 (Nat.le_of_eq g1.symm)
  have sz3 : h0.size ≤ b1 := Nat.le_trans K0.1 (Nat.le_of_eq g1.symm)
  refine og st1 ?_
  have f4 : Arv Z h1 b1 k1 .long (19 : Int32) [(.long (0 : Int64)), (.long (0 : Int64)), (.long (0 : Int64)), (.long (0 : Int64)), (.long (0 : Int64)), (.long (0 : Int64)), (.long (0 : Int64)), (.long (0 : Int64)), (.long (0 : Int64)), (.long (0 : Int64)), (.long (0 : Int64)), (.long (0 : Int64)), (.long (0 : Int64)), (.long (0 : Int64)), (.long (0 : Int64)), (.long (0 : Int64)), (.long (0 : Int64)), (.long (0 : Int64)), (.long (0 : Int64))] (.long (0 : Int64)) := (Arv.new A1 (by decide)).pad (pad_rep [] (.long (0 : Int64)) 19)
  show oG p e below _ (T1.setTop (mkF m 4 #[sI k_, sU] [(.ref b1)]))
  refine og (fun _ hr => XS.dup X1.here hx rfl (hb hby dc39_4) rfl rfl (XS.iconst X1.here hx rfl (hb hby dc39_5) (XS.lconst X1.here hx rfl (hb hby dc39_6) hr))) ?_
  show oG p e below _ (T1.setTop (mkF m 7 #[sI k_, sU] [(.long (1 : Int64)), (.int 0), (.ref b1), (.ref b1)]))
  refine own_stJ X1 hx hZ e1 f4 (0 : Int32) (1 : Int64) 0 ⟨by decide, by decide⟩ rfl (Nat.le_of_ble_eq_true rfl)  [(.long (1 : Int64)), (.long (0 : Int64)), (.long (0 : Int64)), (.long (0 : Int64)), (.long (0 : Int64)), (.long (0 : Int64)), (.long (0 : Int64)), (.long (0 : Int64)), (.long (0 : Int64)), (.long (0 : Int64)), (.long (0 : Int64)), (.long (0 : Int64)), (.long (0 : Int64)), (.long (0 : Int64)), (.long (0 : Int64)), (.long (0 : Int64)), (.long (0 : Int64)), (.long (0 : Int64)), (.long (0 : Int64))] rfl N0 ge2 (hb hby dc39_7) ?_
  intro T5 h5 L5 X5 e5 W5 N5 f5
  show oG p e below _ (T5.setTop (mkF m 8 #[sI k_, sU] [(.ref b1)]))
  refine og (fun _ hr => XS.dup X5.here hx rfl (hb hby dc39_8) rfl rfl (XS.iconst X5.here hx rfl (hb hby dc39_9) hr)) ?_
  show oG p e below _ (T5.setTop (mkF m 10 #[sI k_, sU] [(.int 1), (.ref b1), (.ref b1)]))
  refine og (X5.ldc2Long hx hown (mvT hZ (hw _ (own_m 209 rfl))) rfl (hb hby dc39_10)) ?_
  show oG p e below _ (T5.setTop (mkF m 13 #[sI k_, sU] [(.long (10 : Int64)), (.int 1), (.ref b1), (.ref b1)]))
  refine own_stJ X5 hx hZ e5 f5 (1 : Int32) (10 : Int64) 1 ⟨by decide, by decide⟩ rfl (Nat.le_of_ble_eq_true rfl)  [(.long (1 : Int64)), (.long (10 : Int64)), (.long (0 : Int64)), (.long (0 : Int64)), (.long (0 : Int64)), (.long (0 : Int64)), (.long (0 : Int64)), (.long (0 : Int64)), (.long (0 : Int64)), (.long (0 : Int64)), (.long (0 : Int64)), (.long (0 : Int64)), (.long (0 : Int64)), (.long (0 : Int64)), (.long (0 : Int64)), (.long (0 : Int64)), (.long (0 : Int64)), (.long (0 : Int64)), (.long (0 : Int64))] rfl N5 ge2 (hb hby dc39_13) ?_
  intro T6 h6 L6 X6 e6 W6 N6 f6
  show oG p e below _ (T6.setTop (mkF m 14 #[sI k_, sU] [(.ref b1)]))
  refine og (fun _ hr => XS.dup X6.here hx rfl (hb hby dc39_14) rfl rfl (XS.iconst X6.here hx rfl (hb hby dc39_15) hr)) ?_
  show oG p e below _ (T6.setTop (mkF m 16 #[sI k_, sU] [(.int 2), (.ref b1), (.ref b1)]))
  refine og (X6.ldc2Long hx hown (mvT hZ (hw _ (own_m 210 rfl))) rfl (hb hby dc39_16)) ?_
  show oG p e below _ (T6.setTop (mkF m 19 #[sI k_, sU] [(.long (100 : Int64)), (.int 2), (.ref b1), (.ref b1)]))
  refine own_stJ X6 hx hZ e6 f6 (2 : Int32) (100 : Int64) 2 ⟨by decide, by decide⟩ rfl (Nat.le_of_ble_eq_true rfl)  [(.long (1 : Int64)), (.long (10 : Int64)), (.long (100 : Int64)), (.long (0 : Int64)), (.long (0 : Int64)), (.long (0 : Int64)), (.long (0 : Int64)), (.long (0 : Int64)), (.long (0 : Int64)), (.long (0 : Int64)), (.long (0 : Int64)), (.long (0 : Int64)), (.long (0 : Int64)), (.long (0 : Int64)), (.long (0 : Int64)), (.long (0 : Int64)), (.long (0 : Int64)), (.long (0 : Int64)), (.long (0 : Int64))] rfl N6 ge2 (hb hby dc39_19) ?_
  intro T7 h7 L7 X7 e7 W7 N7 f7
  show oG p e below _ (T7.setTop (mkF m 20 #[sI k_, sU] [(.ref b1)]))
  refine og (fun _ hr => XS.dup X7.here hx rfl (hb hby dc39_20) rfl rfl (XS.iconst X7.here hx rfl (hb hby dc39_21) hr)) ?_
  show oG p e below _ (T7.setTop (mkF m 22 #[sI k_, sU] [(.int 3), (.ref b1), (.ref b1)]))
  refine og (X7.ldc2Long hx hown (mvT hZ (hw _ (own_m 211 rfl))) rfl (hb hby dc39_22)) ?_
  show oG p e below _ (T7.setTop (mkF m 25 #[sI k_, sU] [(.long (1000 : Int64)), (.int 3), (.ref b1), (.ref b1)]))
  refine own_stJ X7 hx hZ e7 f7 (3 : Int32) (1000 : Int64) 3 ⟨by decide, by decide⟩ rfl (Nat.le_of_ble_eq_true rfl)  [(.long (1 : Int64)), (.long (10 : Int64)), (.long (100 : Int64)), (.long (1000 : Int64)), (.long (0 : Int64)), (.long (0 : Int64)), (.long (0 : Int64)), (.long (0 : Int64)), (.long (0 : Int64)), (.long (0 : Int64)), (.long (0 : Int64)), (.long (0 : Int64)), (.long (0 : Int64)), (.long (0 : Int64)), (.long (0 : Int64)), (.long (0 : Int64)), (.long (0 : Int64)), (.long (0 : Int64)), (.long (0 : Int64))] rfl N7 ge2 (hb hby dc39_25) ?_
  intro T8 h8 L8 X8 e8 W8 N8 f8
  show oG p e below _ (T8.setTop (mkF m 26 #[sI k_, sU] [(.ref b1)]))
  refine og (fun _ hr => XS.dup X8.here hx rfl (hb hby dc39_26) rfl rfl (XS.iconst X8.here hx rfl (hb hby dc39_27) hr)) ?_
  show oG p e below _ (T8.setTop (mkF m 28 #[sI k_, sU] [(.int 4), (.ref b1), (.ref b1)]))
  refine og (X8.ldc2Long hx hown (mvT hZ (hw _ (own_m 212 rfl))) rfl (hb hby dc39_28)) ?_
  show oG p e below _ (T8.setTop (mkF m 31 #[sI k_, sU] [(.long (10000 : Int64)), (.int 4), (.ref b1), (.ref b1)]))
  refine own_stJ X8 hx hZ e8 f8 (4 : Int32) (10000 : Int64) 4 ⟨by decide, by decide⟩ rfl (Nat.le_of_ble_eq_true rfl)  [(.long (1 : Int64)), (.long (10 : Int64)), (.long (100 : Int64)), (.long (1000 : Int64)), (.long (10000 : Int64)), (.long (0 : Int64)), (.long (0 : Int64)), (.long (0 : Int64)), (.long (0 : Int64)), (.long (0 : Int64)), (.long (0 : Int64)), (.long (0 : Int64)), (.long (0 : Int64)), (.long (0 : Int64)), (.long (0 : Int64)), (.long (0 : Int64)), (.long (0 : Int64)), (.long (0 : Int64)), (.long (0 : Int64))] rfl N8 ge2 (hb hby dc39_31) ?_
  intro T9 h9 L9 X9 e9 W9 N9 f9
  show oG p e below _ (T9.setTop (mkF m 32 #[sI k_, sU] [(.ref b1)]))
  refine og (fun _ hr => XS.dup X9.here hx rfl (hb hby dc39_32) rfl rfl (XS.iconst X9.here hx rfl (hb hby dc39_33) hr)) ?_
  show oG p e below _ (T9.setTop (mkF m 34 #[sI k_, sU] [(.int 5), (.ref b1), (.ref b1)]))
  refine og (X9.ldc2Long hx hown (mvT hZ (hw _ (own_m 213 rfl))) rfl (hb hby dc39_34)) ?_
  show oG p e below _ (T9.setTop (mkF m 37 #[sI k_, sU] [(.long (100000 : Int64)), (.int 5), (.ref b1), (.ref b1)]))
  refine own_stJ X9 hx hZ e9 f9 (5 : Int32) (100000 : Int64) 5 ⟨by decide, by decide⟩ rfl (Nat.le_of_ble_eq_true rfl)  [(.long (1 : Int64)), (.long (10 : Int64)), (.long (100 : Int64)), (.long (1000 : Int64)), (.long (10000 : Int64)), (.long (100000 : Int64)), (.long (0 : Int64)), (.long (0 : Int64)), (.long (0 : Int64)), (.long (0 : Int64)), (.long (0 : Int64)), (.long (0 : Int64)), (.long (0 : Int64)), (.long (0 : Int64)), (.long (0 : Int64)), (.long (0 : Int64)), (.long (0 : Int64)), (.long (0 : Int64)), (.long (0 : Int64))] rfl N9 ge2 (hb hby dc39_37) ?_
  intro T10 h10 L10 X10 e10 W10 N10 f10
  show oG p e below _ (T10.setTop (mkF m 38 #[sI k_, sU] [(.ref b1)]))
  refine og (fun _ hr => XS.dup X10.here hx rfl (hb hby dc39_38) rfl rfl (XS.bipush X10.here hx rfl (hb hby dc39_39) hr)) ?_
  show oG p e below _ (T10.setTop (mkF m 41 #[sI k_, sU] [(.int 6), (.ref b1), (.ref b1)]))
  refine og (X10.ldc2Long hx hown (mvT hZ (hw _ (own_m 214 rfl))) rfl (hb hby dc39_41)) ?_
  show oG p e below _ (T10.setTop (mkF m 44 #[sI k_, sU] [(.long (1000000 : Int64)), (.int 6), (.ref b1), (.ref b1)]))
  refine own_stJ X10 hx hZ e10 f10 (6 : Int32) (1000000 : Int64) 6 ⟨by decide, by decide⟩ rfl (Nat.le_of_ble_eq_true rfl)  [(.long (1 : Int64)), (.long (10 : Int64)), (.long (100 : Int64)), (.long (1000 : Int64)), (.long (10000 : Int64)), (.long (100000 : Int64)), (.long (1000000 : Int64)), (.long (0 : Int64)), (.long (0 : Int64)), (.long (0 : Int64)), (.long (0 : Int64)), (.long (0 : Int64)), (.long (0 : Int64)), (.long (0 : Int64)), (.long (0 : Int64)), (.long (0 : Int64)), (.long (0 : Int64)), (.long (0 : Int64)), (.long (0 : Int64))] rfl N10 ge2 (hb hby dc39_44) ?_
  intro T11 h11 L11 X11 e11 W11 N11 f11
  show oG p e below _ (T11.setTop (mkF m 45 #[sI k_, sU] [(.ref b1)]))
  refine og (fun _ hr => XS.dup X11.here hx rfl (hb hby dc39_45) rfl rfl (XS.bipush X11.here hx rfl (hb hby dc39_46) hr)) ?_
  show oG p e below _ (T11.setTop (mkF m 48 #[sI k_, sU] [(.int 7), (.ref b1), (.ref b1)]))
  refine og (X11.ldc2Long hx hown (mvT hZ (hw _ (own_m 215 rfl))) rfl (hb hby dc39_48)) ?_
  show oG p e below _ (T11.setTop (mkF m 51 #[sI k_, sU] [(.long (10000000 : Int64)), (.int 7), (.ref b1), (.ref b1)]))
  refine own_stJ X11 hx hZ e11 f11 (7 : Int32) (10000000 : Int64) 7 ⟨by decide, by decide⟩ rfl (Nat.le_of_ble_eq_true rfl)  [(.long (1 : Int64)), (.long (10 : Int64)), (.long (100 : Int64)), (.long (1000 : Int64)), (.long (10000 : Int64)), (.long (100000 : Int64)), (.long (1000000 : Int64)), (.long (10000000 : Int64)), (.long (0 : Int64)), (.long (0 : Int64)), (.long (0 : Int64)), (.long (0 : Int64)), (.long (0 : Int64)), (.long (0 : Int64)), (.long (0 : Int64)), (.long (0 : Int64)), (.long (0 : Int64)), (.long (0 : Int64)), (.long (0 : Int64))] rfl N11 ge2 (hb hby dc39_51) ?_
  intro T12 h12 L12 X12 e12 W12 N12 f12
  show oG p e below _ (T12.setTop (mkF m 52 #[sI k_, sU] [(.ref b1)]))
  refine og (fun _ hr => XS.dup X12.here hx rfl (hb hby dc39_52) rfl rfl (XS.bipush X12.here hx rfl (hb hby dc39_53) hr)) ?_
  show oG p e below _ (T12.setTop (mkF m 55 #[sI k_, sU] [(.int 8), (.ref b1), (.ref b1)]))
  refine og (X12.ldc2Long hx hown (mvT hZ (hw _ (own_m 216 rfl))) rfl (hb hby dc39_55)) ?_
  show oG p e below _ (T12.setTop (mkF m 58 #[sI k_, sU] [(.long (100000000 : Int64)), (.int 8), (.ref b1), (.ref b1)]))
  refine own_stJ X12 hx hZ e12 f12 (8 : Int32) (100000000 : Int64) 8 ⟨by decide, by decide⟩ rfl (Nat.le_of_ble_eq_true rfl)  [(.long (1 : Int64)), (.long (10 : Int64)), (.long (100 : Int64)), (.long (1000 : Int64)), (.long (10000 : Int64)), (.long (100000 : Int64)), (.long (1000000 : Int64)), (.long (10000000 : Int64)), (.long (100000000 : Int64)), (.long (0 : Int64)), (.long (0 : Int64)), (.long (0 : Int64)), (.long (0 : Int64)), (.long (0 : Int64)), (.long (0 : Int64)), (.long (0 : Int64)), (.long (0 : Int64)), (.long (0 : Int64)), (.long (0 : Int64))] rfl N12 ge2 (hb hby dc39_58) ?_
  intro T13 h13 L13 X13 e13 W13 N13 f13
  show oG p e below _ (T13.setTop (mkF m 59 #[sI k_, sU] [(.ref b1)]))
  refine og (fun _ hr => XS.dup X13.here hx rfl (hb hby dc39_59) rfl rfl (XS.bipush X13.here hx rfl (hb hby dc39_60) hr)) ?_
  show oG p e below _ (T13.setTop (mkF m 62 #[sI k_, sU] [(.int 9), (.ref b1), (.ref b1)]))
  refine og (X13.ldc2Long hx hown (mvT hZ (hw _ (own_m 217 rfl))) rfl (hb hby dc39_62)) ?_
  show oG p e below _ (T13.setTop (mkF m 65 #[sI k_, sU] [(.long (1000000000 : Int64)), (.int 9), (.ref b1), (.ref b1)]))
  refine own_stJ X13 hx hZ e13 f13 (9 : Int32) (1000000000 : Int64) 9 ⟨by decide, by decide⟩ rfl (Nat.le_of_ble_eq_true rfl)  [(.long (1 : Int64)), (.long (10 : Int64)), (.long (100 : Int64)), (.long (1000 : Int64)), (.long (10000 : Int64)), (.long (100000 : Int64)), (.long (1000000 : Int64)), (.long (10000000 : Int64)), (.long (100000000 : Int64)), (.long (1000000000 : Int64)), (.long (0 : Int64)), (.long (0 : Int64)), (.long (0 : Int64)), (.long (0 : Int64)), (.long (0 : Int64)), (.long (0 : Int64)), (.long (0 : Int64)), (.long (0 : Int64)), (.long (0 : Int64))] rfl N13 ge2 (hb hby dc39_65) ?_
  intro T14 h14 L14 X14 e14 W14 N14 f14
  show oG p e below _ (T14.setTop (mkF m 66 #[sI k_, sU] [(.ref b1)]))
  refine og (fun _ hr => XS.dup X14.here hx rfl (hb hby dc39_66) rfl rfl (XS.bipush X14.here hx rfl (hb hby dc39_67) hr)) ?_
  show oG p e below _ (T14.setTop (mkF m 69 #[sI k_, sU] [(.int 10), (.ref b1), (.ref b1)]))
  refine og (X14.ldc2Long hx hown (mvT hZ (hw _ (own_m 218 rfl))) rfl (hb hby dc39_69)) ?_
  show oG p e below _ (T14.setTop (mkF m 72 #[sI k_, sU] [(.long (10000000000 : Int64)), (.int 10), (.ref b1), (.ref b1)]))
  refine own_stJ X14 hx hZ e14 f14 (10 : Int32) (10000000000 : Int64) 10 ⟨by decide, by decide⟩ rfl (Nat.le_of_ble_eq_true rfl)  [(.long (1 : Int64)), (.long (10 : Int64)), (.long (100 : Int64)), (.long (1000 : Int64)), (.long (10000 : Int64)), (.long (100000 : Int64)), (.long (1000000 : Int64)), (.long (10000000 : Int64)), (.long (100000000 : Int64)), (.long (1000000000 : Int64)), (.long (10000000000 : Int64)), (.long (0 : Int64)), (.long (0 : Int64)), (.long (0 : Int64)), (.long (0 : Int64)), (.long (0 : Int64)), (.long (0 : Int64)), (.long (0 : Int64)), (.long (0 : Int64))] rfl N14 ge2 (hb hby dc39_72) ?_
  intro T15 h15 L15 X15 e15 W15 N15 f15
  show oG p e below _ (T15.setTop (mkF m 73 #[sI k_, sU] [(.ref b1)]))
  refine og (fun _ hr => XS.dup X15.here hx rfl (hb hby dc39_73) rfl rfl (XS.bipush X15.here hx rfl (hb hby dc39_74) hr)) ?_
  show oG p e below _ (T15.setTop (mkF m 76 #[sI k_, sU] [(.int 11), (.ref b1), (.ref b1)]))
  refine og (X15.ldc2Long hx hown (mvT hZ (hw _ (own_m 219 rfl))) rfl (hb hby dc39_76)) ?_
  show oG p e below _ (T15.setTop (mkF m 79 #[sI k_, sU] [(.long (100000000000 : Int64)), (.int 11), (.ref b1), (.ref b1)]))
  refine own_stJ X15 hx hZ e15 f15 (11 : Int32) (100000000000 : Int64) 11 ⟨by decide, by decide⟩ rfl (Nat.le_of_ble_eq_true rfl)  [(.long (1 : Int64)), (.long (10 : Int64)), (.long (100 : Int64)), (.long (1000 : Int64)), (.long (10000 : Int64)), (.long (100000 : Int64)), (.long (1000000 : Int64)), (.long (10000000 : Int64)), (.long (100000000 : Int64)), (.long (1000000000 : Int64)), (.long (10000000000 : Int64)), (.long (100000000000 : Int64)), (.long (0 : Int64)), (.long (0 : Int64)), (.long (0 : Int64)), (.long (0 : Int64)), (.long (0 : Int64)), (.long (0 : Int64)), (.long (0 : Int64))] rfl N15 ge2 (hb hby dc39_79) ?_
  intro T16 h16 L16 X16 e16 W16 N16 f16
  show oG p e below _ (T16.setTop (mkF m 80 #[sI k_, sU] [(.ref b1)]))
  refine og (fun _ hr => XS.dup X16.here hx rfl (hb hby dc39_80) rfl rfl (XS.bipush X16.here hx rfl (hb hby dc39_81) hr)) ?_
  show oG p e below _ (T16.setTop (mkF m 83 #[sI k_, sU] [(.int 12), (.ref b1), (.ref b1)]))
  refine og (X16.ldc2Long hx hown (mvT hZ (hw _ (own_m 220 rfl))) rfl (hb hby dc39_83)) ?_
  show oG p e below _ (T16.setTop (mkF m 86 #[sI k_, sU] [(.long (1000000000000 : Int64)), (.int 12), (.ref b1), (.ref b1)]))
  refine own_stJ X16 hx hZ e16 f16 (12 : Int32) (1000000000000 : Int64) 12 ⟨by decide, by decide⟩ rfl (Nat.le_of_ble_eq_true rfl)  [(.long (1 : Int64)), (.long (10 : Int64)), (.long (100 : Int64)), (.long (1000 : Int64)), (.long (10000 : Int64)), (.long (100000 : Int64)), (.long (1000000 : Int64)), (.long (10000000 : Int64)), (.long (100000000 : Int64)), (.long (1000000000 : Int64)), (.long (10000000000 : Int64)), (.long (100000000000 : Int64)), (.long (1000000000000 : Int64)), (.long (0 : Int64)), (.long (0 : Int64)), (.long (0 : Int64)), (.long (0 : Int64)), (.long (0 : Int64)), (.long (0 : Int64))] rfl N16 ge2 (hb hby dc39_86) ?_
  intro T17 h17 L17 X17 e17 W17 N17 f17
  show oG p e below _ (T17.setTop (mkF m 87 #[sI k_, sU] [(.ref b1)]))
  refine og (fun _ hr => XS.dup X17.here hx rfl (hb hby dc39_87) rfl rfl (XS.bipush X17.here hx rfl (hb hby dc39_88) hr)) ?_
  show oG p e below _ (T17.setTop (mkF m 90 #[sI k_, sU] [(.int 13), (.ref b1), (.ref b1)]))
  refine og (X17.ldc2Long hx hown (mvT hZ (hw _ (own_m 221 rfl))) rfl (hb hby dc39_90)) ?_
  show oG p e below _ (T17.setTop (mkF m 93 #[sI k_, sU] [(.long (10000000000000 : Int64)), (.int 13), (.ref b1), (.ref b1)]))
  refine own_stJ X17 hx hZ e17 f17 (13 : Int32) (10000000000000 : Int64) 13 ⟨by decide, by decide⟩ rfl (Nat.le_of_ble_eq_true rfl)  [(.long (1 : Int64)), (.long (10 : Int64)), (.long (100 : Int64)), (.long (1000 : Int64)), (.long (10000 : Int64)), (.long (100000 : Int64)), (.long (1000000 : Int64)), (.long (10000000 : Int64)), (.long (100000000 : Int64)), (.long (1000000000 : Int64)), (.long (10000000000 : Int64)), (.long (100000000000 : Int64)), (.long (1000000000000 : Int64)), (.long (10000000000000 : Int64)), (.long (0 : Int64)), (.long (0 : Int64)), (.long (0 : Int64)), (.long (0 : Int64)), (.long (0 : Int64))] rfl N17 ge2 (hb hby dc39_93) ?_
  intro T18 h18 L18 X18 e18 W18 N18 f18
  show oG p e below _ (T18.setTop (mkF m 94 #[sI k_, sU] [(.ref b1)]))
  refine og (fun _ hr => XS.dup X18.here hx rfl (hb hby dc39_94) rfl rfl (XS.bipush X18.here hx rfl (hb hby dc39_95) hr)) ?_
  show oG p e below _ (T18.setTop (mkF m 97 #[sI k_, sU] [(.int 14), (.ref b1), (.ref b1)]))
  refine og (X18.ldc2Long hx hown (mvT hZ (hw _ (own_m 222 rfl))) rfl (hb hby dc39_97)) ?_
  show oG p e below _ (T18.setTop (mkF m 100 #[sI k_, sU] [(.long (100000000000000 : Int64)), (.int 14), (.ref b1), (.ref b1)]))
  refine own_stJ X18 hx hZ e18 f18 (14 : Int32) (100000000000000 : Int64) 14 ⟨by decide, by decide⟩ rfl (Nat.le_of_ble_eq_true rfl)  [(.long (1 : Int64)), (.long (10 : Int64)), (.long (100 : Int64)), (.long (1000 : Int64)), (.long (10000 : Int64)), (.long (100000 : Int64)), (.long (1000000 : Int64)), (.long (10000000 : Int64)), (.long (100000000 : Int64)), (.long (1000000000 : Int64)), (.long (10000000000 : Int64)), (.long (100000000000 : Int64)), (.long (1000000000000 : Int64)), (.long (10000000000000 : Int64)), (.long (100000000000000 : Int64)), (.long (0 : Int64)), (.long (0 : Int64)), (.long (0 : Int64)), (.long (0 : Int64))] rfl N18 ge2 (hb hby dc39_100) ?_
  intro T19 h19 L19 X19 e19 W19 N19 f19
  show oG p e below _ (T19.setTop (mkF m 101 #[sI k_, sU] [(.ref b1)]))
  refine og (fun _ hr => XS.dup X19.here hx rfl (hb hby dc39_101) rfl rfl (XS.bipush X19.here hx rfl (hb hby dc39_102) hr)) ?_
  show oG p e below _ (T19.setTop (mkF m 104 #[sI k_, sU] [(.int 15), (.ref b1), (.ref b1)]))
  refine og (X19.ldc2Long hx hown (mvT hZ (hw _ (own_m 223 rfl))) rfl (hb hby dc39_104)) ?_
  show oG p e below _ (T19.setTop (mkF m 107 #[sI k_, sU] [(.long (1000000000000000 : Int64)), (.int 15), (.ref b1), (.ref b1)]))
  refine own_stJ X19 hx hZ e19 f19 (15 : Int32) (1000000000000000 : Int64) 15 ⟨by decide, by decide⟩ rfl (Nat.le_of_ble_eq_true rfl)  [(.long (1 : Int64)), (.long (10 : Int64)), (.long (100 : Int64)), (.long (1000 : Int64)), (.long (10000 : Int64)), (.long (100000 : Int64)), (.long (1000000 : Int64)), (.long (10000000 : Int64)), (.long (100000000 : Int64)), (.long (1000000000 : Int64)), (.long (10000000000 : Int64)), (.long (100000000000 : Int64)), (.long (1000000000000 : Int64)), (.long (10000000000000 : Int64)), (.long (100000000000000 : Int64)), (.long (1000000000000000 : Int64)), (.long (0 : Int64)), (.long (0 : Int64)), (.long (0 : Int64))] rfl N19 ge2 (hb hby dc39_107) ?_
  intro T20 h20 L20 X20 e20 W20 N20 f20
  show oG p e below _ (T20.setTop (mkF m 108 #[sI k_, sU] [(.ref b1)]))
  refine og (fun _ hr => XS.dup X20.here hx rfl (hb hby dc39_108) rfl rfl (XS.bipush X20.here hx rfl (hb hby dc39_109) hr)) ?_
  show oG p e below _ (T20.setTop (mkF m 111 #[sI k_, sU] [(.int 16), (.ref b1), (.ref b1)]))
  refine og (X20.ldc2Long hx hown (mvT hZ (hw _ (own_m 224 rfl))) rfl (hb hby dc39_111)) ?_
  show oG p e below _ (T20.setTop (mkF m 114 #[sI k_, sU] [(.long (10000000000000000 : Int64)), (.int 16), (.ref b1), (.ref b1)]))
  refine own_stJ X20 hx hZ e20 f20 (16 : Int32) (10000000000000000 : Int64) 16 ⟨by decide, by decide⟩ rfl (Nat.le_of_ble_eq_true rfl)  [(.long (1 : Int64)), (.long (10 : Int64)), (.long (100 : Int64)), (.long (1000 : Int64)), (.long (10000 : Int64)), (.long (100000 : Int64)), (.long (1000000 : Int64)), (.long (10000000 : Int64)), (.long (100000000 : Int64)), (.long (1000000000 : Int64)), (.long (10000000000 : Int64)), (.long (100000000000 : Int64)), (.long (1000000000000 : Int64)), (.long (10000000000000 : Int64)), (.long (100000000000000 : Int64)), (.long (1000000000000000 : Int64)), (.long (10000000000000000 : Int64)), (.long (0 : Int64)), (.long (0 : Int64))] rfl N20 ge2 (hb hby dc39_114) ?_
  intro T21 h21 L21 X21 e21 W21 N21 f21
  show oG p e below _ (T21.setTop (mkF m 115 #[sI k_, sU] [(.ref b1)]))
  refine og (fun _ hr => XS.dup X21.here hx rfl (hb hby dc39_115) rfl rfl (XS.bipush X21.here hx rfl (hb hby dc39_116) hr)) ?_
  show oG p e below _ (T21.setTop (mkF m 118 #[sI k_, sU] [(.int 17), (.ref b1), (.ref b1)]))
  refine og (X21.ldc2Long hx hown (mvT hZ (hw _ (own_m 225 rfl))) rfl (hb hby dc39_118)) ?_
  show oG p e below _ (T21.setTop (mkF m 121 #[sI k_, sU] [(.long (100000000000000000 : Int64)), (.int 17), (.ref b1), (.ref b1)]))
  refine own_stJ X21 hx hZ e21 f21 (17 : Int32) (100000000000000000 : Int64) 17 ⟨by decide, by decide⟩ rfl (Nat.le_of_ble_eq_true rfl)  [(.long (1 : Int64)), (.long (10 : Int64)), (.long (100 : Int64)), (.long (1000 : Int64)), (.long (10000 : Int64)), (.long (100000 : Int64)), (.long (1000000 : Int64)), (.long (10000000 : Int64)), (.long (100000000 : Int64)), (.long (1000000000 : Int64)), (.long (10000000000 : Int64)), (.long (100000000000 : Int64)), (.long (1000000000000 : Int64)), (.long (10000000000000 : Int64)), (.long (100000000000000 : Int64)), (.long (1000000000000000 : Int64)), (.long (10000000000000000 : Int64)), (.long (100000000000000000 : Int64)), (.long (0 : Int64))] rfl N21 ge2 (hb hby dc39_121) ?_
  intro T22 h22 L22 X22 e22 W22 N22 f22
  show oG p e below _ (T22.setTop (mkF m 122 #[sI k_, sU] [(.ref b1)]))
  refine og (fun _ hr => XS.dup X22.here hx rfl (hb hby dc39_122) rfl rfl (XS.bipush X22.here hx rfl (hb hby dc39_123) hr)) ?_
  show oG p e below _ (T22.setTop (mkF m 125 #[sI k_, sU] [(.int 18), (.ref b1), (.ref b1)]))
  refine og (X22.ldc2Long hx hown (mvT hZ (hw _ (own_m 226 rfl))) rfl (hb hby dc39_125)) ?_
  show oG p e below _ (T22.setTop (mkF m 128 #[sI k_, sU] [(.long (1000000000000000000 : Int64)), (.int 18), (.ref b1), (.ref b1)]))
  refine own_stJ X22 hx hZ e22 f22 (18 : Int32) (1000000000000000000 : Int64) 18 ⟨by decide, by decide⟩ rfl (Nat.le_of_ble_eq_true rfl)  [(.long (1 : Int64)), (.long (10 : Int64)), (.long (100 : Int64)), (.long (1000 : Int64)), (.long (10000 : Int64)), (.long (100000 : Int64)), (.long (1000000 : Int64)), (.long (10000000 : Int64)), (.long (100000000 : Int64)), (.long (1000000000 : Int64)), (.long (10000000000 : Int64)), (.long (100000000000 : Int64)), (.long (1000000000000 : Int64)), (.long (10000000000000 : Int64)), (.long (100000000000000 : Int64)), (.long (1000000000000000 : Int64)), (.long (10000000000000000 : Int64)), (.long (100000000000000000 : Int64)), (.long (1000000000000000000 : Int64))] rfl N22 ge2 (hb hby dc39_128) ?_
  intro T23 h23 L23 X23 e23 W23 N23 f23
  show oG p e below _ (T23.setTop (mkF m 129 #[sI k_, sU] [(.ref b1)]))
  refine og (fun _ hr => XS.astoreN X23.here hx rfl (hb hby dc39_129) rfl rfl (l' := #[sI k_, sR b1]) rfl (XS.aloadN X23.here hx rfl (hb hby dc39_130) rfl rfl (XS.iloadN X23.here hx rfl (hb hby dc39_131) rfl (own_laload X23 hx hZ e23 f23 k_ (.long (own_pw kN_)) ⟨hq_.2.1, by have e := hq_.2.2; simp only [Int32.lt_iff_toInt_lt, Int32.reduceToInt]; omega⟩ (by rw [hq_.1]; exact own_pwa hk19_) rfl rfl (hb hby dc39_132) hr)))) ?_
  show oG p e below _ (T23.setTop (mkF m 133 #[sI k_, sR b1] [(.long (own_pw kN_))]))
  have K24 := ((((((((((((((((((((K0.ext E1).wr W5 (Or.inr sz3)).wr W6 (Or.inr sz3)).wr W7 (Or.inr sz3)).wr W8 (Or.inr sz3)).wr W9 (Or.inr sz3)).wr W10 (Or.inr sz3)).wr W11 (Or.inr sz3)).wr W12 (Or.inr sz3)).wr W13 (Or.inr sz3)).wr W14 (Or.inr sz3)).wr W15 (Or.inr sz3)).wr W16 (Or.inr sz3)).wr W17 (Or.inr sz3)).wr W18 (Or.inr sz3)).wr W19 (Or.inr sz3)).wr W20 (Or.inr sz3)).wr W21 (Or.inr sz3)).wr W22 (Or.inr sz3)).wr W23 (Or.inr sz3))
  exact own_retJ X23 hx hlk Bd.returns (hb hby dc39_133) (by decide) (by decide) (by rw [e23]; exact ⟨rfl, N23, K24⟩)
theorem own_m19 {a : Nat} {d : Int32} (h : Int32.ofNat a = d) (h1 : 1 ≤ a) (ha : a ≤ 40) : Int32.ofNat (a - 1) = d - (1 : Int32) := own_m18 (by rw [Nat.sub_add_cancel h1]; exact h) (by omega)
theorem own_m20 {a b : Nat} {d j : Int32} (h : Int32.ofNat a = d) (hj : Int32.ofNat b = j) (hb : b < a) (ha : a ≤ 40) : Int32.ofNat (a - 1 - b) = (d - (1 : Int32)) - j := (own_cpb hj (own_m19 h (by omega) ha) (own_m19 h (by omega) ha) (by omega) (Nat.le_refl _) (by omega)).2.2.2.2.1
theorem own_d0 {n : Nat} (h : 1 < Jvm.Free.SBG.digitsL n) : 1 ≤ n := by
  rcases Nat.eq_zero_or_pos n with q | q
  · subst q; exact absurd h (by decide)
  · exact q
theorem own_nd {a : Nat} {d : Int32} (h : Int32.ofNat a = d) (h1 : 1 ≤ a) (h2 : a ≤ 19) : ¬ d < (1 : Int32) ∧ ¬ (19 : Int32) < d ∧ d.toInt = a := by
  have e := (own_tnat h (by omega)).2.2
  refine ⟨?_, ?_, e⟩ <;> simp only [Int32.lt_iff_toInt_lt, Int32.reduceToInt] <;> omega
theorem own_msk (x : Int32) : ¬ ((x &&& (2147483647 : Int32)) < (0 : Int32)) := by
  have q0 := rng32 x
  have q1 := c_mask x (2147483647 : Int32) 31 (by decide) (by decide)
  simp only [true_implies, Int32.lt_iff_toInt_lt, ← Int32.toInt_inj, Int32.reduceToInt] at q0 q1 ⊢
  omega
theorem own_pd26 : parseMethodDescriptor "(I)J" = some ⟨[.int], some .long⟩ := by decide +kernel
theorem dc7_0 : decode prog_14_method_1_code 0 = .ok (.aload_n 0, 1) := by decide +kernel
theorem dc7_1 : decode prog_14_method_1_code 1 = .ok (.invokespecial 1, 3) := by decide +kernel
theorem dc7_4 : decode prog_14_method_1_code 4 = .ok (.aload_n 0, 1) := by decide +kernel
theorem dc7_5 : decode prog_14_method_1_code 5 = .ok (.lload_n 1, 1) := by decide +kernel
theorem dc7_6 : decode prog_14_method_1_code 6 = .ok (.putfield 7, 3) := by decide +kernel
theorem dc7_9 : decode prog_14_method_1_code 9 = .ok (.aload_n 0, 1) := by decide +kernel
theorem dc7_10 : decode prog_14_method_1_code 10 = .ok (.aload_n 3, 1) := by decide +kernel
theorem dc7_11 : decode prog_14_method_1_code 11 = .ok (.putfield 13, 3) := by decide +kernel
theorem dc7_14 : decode prog_14_method_1_code 14 = .ok (.return_, 1) := by decide +kernel
def Q_init_13 (Z : State) (o0 : Addr) (z0 : Int64) (o1 : Addr) (h0 : Heap) (n0 : Nat) (v : Option Value) (h : Heap) (L : List Loc) : Prop := (v = none ∧ Fr n0 L ∧ Keep h0 h [o0] ∧ Fld Z h o0 "com/example/strict_tariff/stricttariff/pricing/RefusedReading" "line" "J" (.long z0) ∧ Fld Z h o0 "com/example/strict_tariff/stricttariff/pricing/RefusedReading" "reason" "Ljava/lang/String;" (.ref o1))
set_option maxRecDepth 65536 in
set_option maxHeartbeats 40000000 in
theorem rm_init_13 (l : Launch) (Z : State) (a0 : Array Value) (hw : ∀ d ∈ tables_1, d.before a0 Z = true) (ws : List Jvm.Cond) (o0 : Addr) (z0 : Int64) (o1 : Addr) (h0 : Heap) (n0 : Nat) (Z0 : n0 ≤ h0.size) (P0 : Exa Z h0 o0 "com/example/strict_tariff/stricttariff/pricing/RefusedReading") (P1 : Fld Z h0 o0 "com/example/strict_tariff/stricttariff/pricing/RefusedReading" "line" "J" (.long (0 : Int64))) (P2 : Fld Z h0 o0 "com/example/strict_tariff/stricttariff/pricing/RefusedReading" "reason" "Ljava/lang/String;" .null) (ge0p : n0 ≤ o0) :
    MetFree l (⟨"com/example/strict_tariff/stricttariff/pricing/RefusedReading", "<init>", "(JLjava/lang/String;)V"⟩ : MethodName) (head1 (Jvm.Cond.code (⟨"com/example/strict_tariff/stricttariff/pricing/RefusedReading", "<init>", "(JLjava/lang/String;)V"⟩ : MethodName) prog_14_method_1_code 4 none :: ws) ({ frames := 1, cells := 0, slots := 0, locals := 12 } : Room)) (fun aA U => aA = #[(.ref o0), (.long z0), (.ref o1)] ∧ Z.Warmed39 U.vm ∧ U.heap = h0) (fun _ _ _ _ _ => True) (fun _ U o U' => ∃ v L, o = .returned v ∧ Q_init_13 Z o0 z0 o1 h0 n0 v U'.heap L ∧ FrameEnd U o U' L ({ frames := 1, cells := 0, slots := 0, locals := 12 } : Room).cells ({ frames := 1, cells := 0, slots := 0, locals := 12 } : Room).slots) := by
  refine MetFree.of_bodySF (plainFor_of_name own_pn_com_example_strict_tariff_stricttariff_pricing_RefusedReading) hisR ?_
  intro p e s m args below meth c s₁ Bd hml0 hP hK
  obtain ⟨rfl, hZ, hh⟩ := hP
  have hx := Bd.exec
  have hby := Bd.bytes
  have hlk : meth.locks = false := BodyLoose.notSynchronized Bd
  have hml : c.maxLocals = 4 := hml0
  have hown : s.vm.findClass "com/example/strict_tariff/stricttariff/pricing/RefusedReading" = some m.cls := findClass_of_methodNamed Bd.named
  have hnm := (name_of_methodNamed Bd.named Bd.method).1
  have X0 : Stand p l e ({ frames := 1, cells := 0, slots := 0, locals := 12 } : Room) s m #[(.ref o0), (.long z0), (.ref o1)] below meth c s₁ [] 0 0 := Stand.of_body Bd
  have e0 : s₁.heap = h0 := by rw [← hh, Bd.state]; rfl
  have N0 := Fr.nil n0
  have K0 : Keep h0 h0 [o0] := Keep.refl _ _
  show oG p e below (own_K s (Q_init_13 Z o0 z0 o1 h0 n0) ({ frames := 1, cells := 0, slots := 0, locals := 12 } : Room).cells ({ frames := 1, cells := 0, slots := 0, locals := 12 } : Room).slots) (s₁.setTop (entryFrame m #[(.ref o0), (.long z0), (.ref o1)] 4))
  rw [(by first | (simp [entryFrame, mkF, argsToLocals, Value.category]; done) | rfl : entryFrame m #[(.ref o0), (.long z0), (.ref o1)] 4 = mkF m 0 #[sR o0, sJ z0, sS, sR o1] [])]
  show oG p e below _ (s₁.setTop (mkF m 0 #[sR o0, sJ z0, sS, sR o1] []))
  refine og (fun _ hr => XS.aloadN X0.here hx rfl (hb hby dc7_0) rfl rfl hr) ?_
  show oG p e below _ (s₁.setTop (mkF m 1 #[sR o0, sJ z0, sS, sR o1] [(.ref o0)]))
  obtain ⟨T1, X1, e1, st1⟩ := initO X0 hx hZ hown (hw _ (own_m 36 rfl)) (hw _ (own_m 12 rfl)) (hw _ (own_m 13 rfl)) e0 (g := (mkF m 1 #[sR o0, sJ z0, sS, sR o1] [(.ref o0)])) rfl (by rw [hml]; rfl) rfl (hb hby dc7_1) (by decide) (W := 0) (by show 2 * 0 + _ ≤ _; exact Nat.le_of_eq rfl) (by decide)
  refine og st1 ?_
  show oG p e below _ (T1.setTop (mkF m 4 #[sR o0, sJ z0, sS, sR o1] []))
  refine og (fun _ hr => XS.aloadN X1.here hx rfl (hb hby dc7_4) rfl rfl (XS.lloadN X1.here hx rfl (hb hby dc7_5) rfl hr)) ?_
  show oG p e below _ (T1.setTop (mkF m 6 #[sR o0, sJ z0, sS, sR o1] [(.long z0), (.ref o0)]))
  obtain ⟨T2, h2, X2, e2, W2, st2⟩ := putF X1 hx hZ hown (host := "") (Or.inl (hw _ (own_m 37 rfl))) Via.refl e1 P1 P0 (Or.inr ⟨(hw _ (own_m 38 rfl)), rfl, hnm⟩) (hw _ (own_m 31 rfl)) (ty := .long) (by decide) rfl rfl (g := (mkF m 6 #[sR o0, sJ z0, sS, sR o1] [(.long z0), (.ref o0)])) rfl rfl (hb hby dc7_6)
  refine og st2 ?_
  have f3 := P1.same W2
  have N4 := Fr.snoc X2 N0 ge0p
  show oG p e below _ (T2.setTop (mkF m 9 #[sR o0, sJ z0, sS, sR o1] []))
  refine og (fun _ hr => XS.aloadN X2.here hx rfl (hb hby dc7_9) rfl rfl (XS.aloadN X2.here hx rfl (hb hby dc7_10) rfl rfl hr)) ?_
  show oG p e below _ (T2.setTop (mkF m 11 #[sR o0, sJ z0, sS, sR o1] [(.ref o1), (.ref o0)]))
  have f5 := (P0.wr W2)
  have f6 := (P2.other W2 (Or.inr (slot_ne (Or.inr (hw _ (own_m 40 rfl))) (Or.inr (hw _ (own_m 38 rfl))) (by decide) (t := (.object "java/lang/String")) (t' := .long) (by decide) (by decide))))
  obtain ⟨T7, h7, X7, e7, W7, st7⟩ := putF X2 hx hZ hown (host := "") (Or.inl (hw _ (own_m 39 rfl))) Via.refl e2 f6 f5 (Or.inr ⟨(hw _ (own_m 40 rfl)), rfl, hnm⟩) (hw _ (own_m 31 rfl)) (ty := (.object "java/lang/String")) (by decide) rfl rfl (g := (mkF m 11 #[sR o0, sJ z0, sS, sR o1] [(.ref o1), (.ref o0)])) rfl rfl (hb hby dc7_11)
  refine og st7 ?_
  have f8 := f6.same W7
  have N9 := Fr.snoc X7 N4 ge0p
  show oG p e below _ (T7.setTop (mkF m 14 #[sR o0, sJ z0, sS, sR o1] []))
  have f10 := (f3.other W7 (Or.inr (slot_ne (Or.inr (hw _ (own_m 38 rfl))) (Or.inr (hw _ (own_m 40 rfl))) (by decide) (t := .long) (t' := (.object "java/lang/String")) (by decide) (by decide))))
  have K11 := ((K0.wr W2 (Or.inl (List.mem_of_getElem? (i := 0) rfl))).wr W7 (Or.inl (List.mem_of_getElem? (i := 0) rfl)))
  exact own_ret0 X7 hx hlk Bd.returns (hb hby dc7_14) (by decide) (by decide) (by rw [e7]; exact ⟨rfl, N9, K11, f10, f8⟩)
theorem own_pd27 : parseMethodDescriptor "(JLjava/lang/String;)V" = some ⟨[.long, (.object "java/lang/String")], none⟩ := by decide +kernel
theorem dc1_0 : decode jdk_42_method_3_code 0 = .ok (.aload_n 0, 1) := by decide +kernel
theorem dc1_1 : decode jdk_42_method_3_code 1 = .ok (.aload_n 1, 1) := by decide +kernel
theorem dc1_2 : decode jdk_42_method_3_code 2 = .ok (.iconst 0, 1) := by decide +kernel
theorem dc1_3 : decode jdk_42_method_3_code 3 = .ok (.aload_n 1, 1) := by decide +kernel
theorem dc1_4 : decode jdk_42_method_3_code 4 = .ok (.arraylength, 1) := by decide +kernel
theorem dc1_5 : decode jdk_42_method_3_code 5 = .ok (.aconst_null, 1) := by decide +kernel
theorem dc1_6 : decode jdk_42_method_3_code 6 = .ok (.invokespecial 27, 3) := by decide +kernel
theorem dc2_0 : decode jdk_42_method_149_code 0 = .ok (.aload_n 0, 1) := by decide +kernel
theorem dc2_1 : decode jdk_42_method_149_code 1 = .ok (.invokespecial 1, 3) := by decide +kernel
theorem dc2_4 : decode jdk_42_method_149_code 4 = .ok (.iload_n 3, 1) := by decide +kernel
theorem dc2_5 : decode jdk_42_method_149_code 5 = .ok (.ifCond .ne 22, 3) := by decide +kernel
theorem dc2_8 : decode jdk_42_method_149_code 8 = .ok (.aload_n 0, 1) := by decide +kernel
theorem dc2_9 : decode jdk_42_method_149_code 9 = .ok (.ldc 7, 2) := by decide +kernel
theorem dc2_11 : decode jdk_42_method_149_code 11 = .ok (.getfield 9, 3) := by decide +kernel
theorem dc2_14 : decode jdk_42_method_149_code 14 = .ok (.putfield 9, 3) := by decide +kernel
theorem dc2_17 : decode jdk_42_method_149_code 17 = .ok (.aload_n 0, 1) := by decide +kernel
theorem dc2_18 : decode jdk_42_method_149_code 18 = .ok (.ldc 7, 2) := by decide +kernel
theorem dc2_20 : decode jdk_42_method_149_code 20 = .ok (.getfield 15, 3) := by decide +kernel
theorem dc2_23 : decode jdk_42_method_149_code 23 = .ok (.putfield 15, 3) := by decide +kernel
theorem dc2_26 : decode jdk_42_method_149_code 26 = .ok (.return_, 1) := by decide +kernel
def Q_init_14 (Z : State) (o0 : Addr) (h0 : Heap) (n0 : Nat) (v : Option Value) (h : Heap) (L : List Loc) : Prop := (∃ (b2 : Addr) (k2 : ClassId), v = none ∧ Fr n0 L ∧ Keep h0 h [o0] ∧ Fld Z h o0 "java/lang/String" "coder" "B" (.int 0) ∧ Fld Z h o0 "java/lang/String" "value" "[B" (.ref b2) ∧ Arv Z h b2 k2 .byte (0 : Int32) [] (.int 0))
set_option maxRecDepth 65536 in
set_option maxHeartbeats 40000000 in
theorem rm_init_14 (l : Launch) (Z : State) (a0 : Array Value) (hw : ∀ d ∈ tables_1, d.before a0 Z = true) (ws : List Jvm.Cond) (o0 : Addr) (o1 : Addr) (h0 : Heap) (n0 : Nat) (Z0 : n0 ≤ h0.size) (P0 : Exa Z h0 o0 "java/lang/String") (P1 : Fld Z h0 o0 "java/lang/String" "value" "[B" .null) (P2 : Fld Z h0 o0 "java/lang/String" "coder" "B" (.int 0)) (ge0p : n0 ≤ o0) :
    MetFree l (⟨"java/lang/String", "<init>", "([CIILjava/lang/Void;)V"⟩ : MethodName) (head1 (Jvm.Cond.code (⟨"java/lang/String", "<init>", "([CIILjava/lang/Void;)V"⟩ : MethodName) jdk_42_method_149_code 6 none :: ws) ({ frames := 1, cells := 4, slots := 8, locals := 12 } : Room)) (fun aA U => aA = #[(.ref o0), (.ref o1), (.int 0), (.int 0), .null] ∧ Z.Warmed39 U.vm ∧ U.heap = h0 ∧ CHv Z own_EL U.vm h0) (fun _ _ _ _ _ => True) (fun _ U o U' => ∃ v L, o = .returned v ∧ Q_init_14 Z o0 h0 n0 v U'.heap L ∧ CHr Z own_EL U.vm U.heap U'.vm U'.heap ∧ ReturnedEndW U o U' L ({ frames := 1, cells := 4, slots := 8, locals := 12 } : Room).cells ({ frames := 1, cells := 4, slots := 8, locals := 12 } : Room).slots) := by
  refine MetFree.of_bodySF (plainFor_of_name own_pn_java_lang_String) hisR ?_
  intro p e s m args below meth c s₁ Bd hml0 hP hK
  obtain ⟨rfl, hZ, hh, hC0⟩ := hP
  have hx := Bd.exec
  have hby := Bd.bytes
  have hlk : meth.locks = false := BodyLoose.notSynchronized Bd
  have hml : c.maxLocals = 6 := hml0
  have hown : s.vm.findClass "java/lang/String" = some m.cls := findClass_of_methodNamed Bd.named
  have hnm := (name_of_methodNamed Bd.named Bd.method).1
  have X0 : Stand p l e ({ frames := 1, cells := 4, slots := 8, locals := 12 } : Room) (s.setVm s.vm) m #[(.ref o0), (.ref o1), (.int 0), (.int 0), .null] below meth c s₁ [] 0 0 := Stand.of_body Bd
  have e0 : s₁.heap = h0 := by rw [← hh, Bd.state]; rfl
  have N0 := Fr.nil n0
  have hS : s.Since s.vm 0 := (State.WarmedH.refl s).since 0
  have hk := Nat.zero_le h0.size
  have hEL : EW Z a0 own_EL := own_ew hw
  have A0 : CHr Z own_EL s.vm h0 s.vm h0 := CHr.refl hC0
  have K0 : Keep h0 h0 [o0] := Keep.refl _ _
  show oG p e below (own_KW Z own_EL s (Q_init_14 Z o0 h0 n0) ({ frames := 1, cells := 4, slots := 8, locals := 12 } : Room).cells ({ frames := 1, cells := 4, slots := 8, locals := 12 } : Room).slots) (s₁.setTop (entryFrame m #[(.ref o0), (.ref o1), (.int 0), (.int 0), .null] 6))
  rw [(by first | (simp [entryFrame, mkF, argsToLocals, Value.category]; done) | rfl : entryFrame m #[(.ref o0), (.ref o1), (.int 0), (.int 0), .null] 6 = mkF m 0 #[sR o0, sR o1, sI 0, sI 0, .val .null, sU] [])]
  show oG p e below _ (s₁.setTop (mkF m 0 #[sR o0, sR o1, sI 0, sI 0, .val .null, sU] []))
  refine og (fun _ hr => XS.aloadN X0.here hx rfl (hb hby dc2_0) rfl rfl hr) ?_
  show oG p e below _ (s₁.setTop (mkF m 1 #[sR o0, sR o1, sI 0, sI 0, .val .null, sU] [(.ref o0)]))
  obtain ⟨T1, X1, e1, st1⟩ := initO X0 hx hZ hown (hw _ (own_m 11 rfl)) (hw _ (own_m 12 rfl)) (hw _ (own_m 13 rfl)) e0 (g := (mkF m 1 #[sR o0, sR o1, sI 0, sI 0, .val .null, sU] [(.ref o0)])) rfl (by rw [hml]; rfl) rfl (hb hby dc2_1) (by decide) (W := 0) (by show 2 * 0 + _ ≤ _; exact Nat.le_of_eq rfl) (by decide)
  refine og st1 ?_
  show oG p e below _ (T1.setTop (mkF m 4 #[sR o0, sR o1, sI 0, sI 0, .val .null, sU] []))
  refine og (fun _ hr => XS.iloadN X1.here hx rfl (hb hby dc2_4) rfl (XS.ifNo X1.here hx rfl (hb hby dc2_5) rfl ((if0 _ _).trans (teq (by decide)).2) (XS.aloadN X1.here hx rfl (hb hby dc2_8) rfl rfl hr))) ?_
  show oG p e below _ (T1.setTop (mkF m 9 #[sR o0, sR o1, sI 0, sI 0, .val .null, sU] [(.ref o0)]))
  have hZo3 := hZ
  obtain ⟨a2, T2, h2, k12, b2, k2, X2, e2, E2, hS, hk2, hZ, hown, EA2, FC2, FV2, AV2, -, -, Al2, -, ne2, st2⟩ := ldcCH X1 hx hZ hown (hw _ (own_m 248 rfl)) (own_ws hw) e1 hS hk hEL (by simp [own_EL]) A0.1 (vs := []) (z := (0 : Int32)) ⟨by decide, by decide⟩ (by decide) (by decide) (g := (mkF m 9 #[sR o0, sR o1, sI 0, sI 0, .val .null, sU] [(.ref o0)])) rfl (hb hby dc2_9) (n := 0) (by decide) (by decide) (by decide) (by decide)
  refine og st2 ?_
  show oG p e below _ (T2.setTop (mkF m 11 #[sR o0, sR o1, sI 0, sI 0, .val .null, sU] [(.ref a2), (.ref o0)]))
  obtain ⟨T4, X4, e4, st4⟩ := getF X2 hx hZ hown (host := "") (Or.inl (hw _ (own_m 28 rfl))) Via.refl e2 FV2 (g := (mkF m 11 #[sR o0, sR o1, sI 0, sI 0, .val .null, sU] [(.ref a2), (.ref o0)])) rfl rfl (hb hby dc2_11)
  refine og st4 ?_
  show oG p e below _ (T4.setTop (mkF m 14 #[sR o0, sR o1, sI 0, sI 0, .val .null, sU] [(.ref b2), (.ref o0)]))
  have f5 := (P0.ext E2)
  have f6 := (P1.ext E2)
  obtain ⟨T7, h7, X7, e7, W7, st7⟩ := putF X4 hx hZ hown (host := "") (Or.inl (hw _ (own_m 28 rfl))) Via.refl e4 f6 f5 (Or.inr ⟨(hw _ (own_m 29 rfl)), rfl, hnm⟩) (hw _ (own_m 2 rfl)) (ty := (.array .byte)) (by decide) rfl rfl (g := (mkF m 14 #[sR o0, sR o1, sI 0, sI 0, .val .null, sU] [(.ref b2), (.ref o0)])) rfl rfl (hb hby dc2_14)
  refine og st7 ?_
  have f8 := f6.same W7
  have N9 := Fr.snoc X7 N0 ge0p
  show oG p e below _ (T7.setTop (mkF m 17 #[sR o0, sR o1, sI 0, sI 0, .val .null, sU] []))
  refine og (fun _ hr => XS.aloadN X7.here hx rfl (hb hby dc2_17) rfl rfl hr) ?_
  show oG p e below _ (T7.setTop (mkF m 18 #[sR o0, sR o1, sI 0, sI 0, .val .null, sU] [(.ref o0)]))
  have A11 := A0.trans Al2
  have sf13 := (Al2.safe P0.lt (own_safe_null hZo3.alike P0 P1))
  have A12 := A11.trans (CHr.wr W7 sf13 A11.1)
  have hk14 := (Nat.le_trans hk2 (Nat.le_of_eq W7.size.symm))
  have hZo15 := hZ
  obtain ⟨a10, T10, h10, k110, b10, k10, X10, e10, E10, hS, hk10, hZ, hown, EA10, FC10, FV10, AV10, -, -, Al10, -, ne10, st10⟩ := ldcCH X7 hx hZ hown (hw _ (own_m 248 rfl)) (own_ws hw) e7 hS hk14 hEL (by simp [own_EL]) A12.1 (vs := []) (z := (0 : Int32)) ⟨by decide, by decide⟩ (by decide) (by decide) (g := (mkF m 18 #[sR o0, sR o1, sI 0, sI 0, .val .null, sU] [(.ref o0)])) rfl (hb hby dc2_18) (n := 0) (by decide) (by decide) (by decide) (by decide)
  refine og st10 ?_
  show oG p e below _ (T10.setTop (mkF m 20 #[sR o0, sR o1, sI 0, sI 0, .val .null, sU] [(.ref a10), (.ref o0)]))
  obtain ⟨T16, X16, e16, st16⟩ := getF X10 hx hZ hown (host := "") (Or.inl (hw _ (own_m 26 rfl))) Via.refl e10 FC10 (g := (mkF m 20 #[sR o0, sR o1, sI 0, sI 0, .val .null, sU] [(.ref a10), (.ref o0)])) rfl rfl (hb hby dc2_20)
  refine og st16 ?_
  show oG p e below _ (T16.setTop (mkF m 23 #[sR o0, sR o1, sI 0, sI 0, .val .null, sU] [(.int 0), (.ref o0)]))
  have f17 := ((f5.wr W7).ext E10)
  have f18 := (((P2.ext E2).other W7 (Or.inr (slot_ne (Or.inr (hw _ (own_m 27 rfl))) (Or.inr (hw _ (own_m 29 rfl))) (by decide) (t := .byte) (t' := (.array .byte)) (by decide) (by decide)))).ext E10)
  obtain ⟨T19, h19, X19, e19, W19, st19⟩ := putFN X16 hx hZ hown (hw _ (own_m 26 rfl)) Via.refl e16 f18 f17 (Or.inr ⟨(hw _ (own_m 27 rfl)), rfl, hnm⟩) (hw _ (own_m 2 rfl)) (ty := .byte) (v' := .int 0) (by decide) rfl (by decide) (g := (mkF m 23 #[sR o0, sR o1, sI 0, sI 0, .val .null, sU] [(.int 0), (.ref o0)])) rfl rfl (hb hby dc2_23)
  refine og st19 ?_
  have f20 := f18.same W19
  have N21 := Fr.snoc X19 N9 ge0p
  show oG p e below _ (T19.setTop (mkF m 26 #[sR o0, sR o1, sI 0, sI 0, .val .null, sU] []))
  have f22 := ((f8.ext E10).other W19 (Or.inr (slot_ne (Or.inr (hw _ (own_m 29 rfl))) (Or.inr (hw _ (own_m 27 rfl))) (by decide) (t := (.array .byte)) (t' := .byte) (by decide) (by decide))))
  have f23 := (((AV2.other W7 (Ne.symm (ne2 o0 sf13).2)).ext E10).other W19 (Ne.symm (ne2 o0 sf13).2))
  have K24 := ((((K0.ext E2).wr W7 (Or.inl (List.mem_of_getElem? (i := 0) rfl))).ext E10).wr W19 (Or.inl (List.mem_of_getElem? (i := 0) rfl)))
  have hk25 := (Nat.le_trans hk10 (Nat.le_of_eq W19.size.symm))
  have A26 := A12.trans Al10
  have sf28 := (Al10.safe (f5.wr W7).lt (Safe.wr W7 sf13 A11.1 sf13))
  have A27 := A26.trans (CHr.wr W19 sf28 A26.1)
  exact own_ret0W X19 hx hlk Bd.returns hS hk25 hZ hEL hh e19 A27 (hb hby dc2_26) (by decide) (by decide) (by rw [e19]; exact ⟨b2, k2, rfl, N21, K24, f20, f22, f23⟩)
theorem own_pd28 : parseMethodDescriptor "([CIILjava/lang/Void;)V" = some ⟨[(.array .char), .int, .int, (.object "java/lang/Void")], none⟩ := by decide +kernel
theorem dc1_9 : decode jdk_42_method_3_code 9 = .ok (.return_, 1) := by decide +kernel
def Q_init_15 (Z : State) (o0 : Addr) (h0 : Heap) (n0 : Nat) (v : Option Value) (h : Heap) (L : List Loc) : Prop := (∃ (b1_0 : Addr) (kb1_0 : ClassId), v = none ∧ Fr n0 L ∧ Keep h0 h [o0] ∧ Fld Z h o0 "java/lang/String" "coder" "B" (.int 0) ∧ Fld Z h o0 "java/lang/String" "value" "[B" (.ref b1_0) ∧ Arv Z h b1_0 kb1_0 .byte (0 : Int32) [] (.int 0))
set_option maxRecDepth 65536 in
set_option maxHeartbeats 40000000 in
theorem rm_init_15 (l : Launch) (Z : State) (a0 : Array Value) (hw : ∀ d ∈ tables_1, d.before a0 Z = true) (ws : List Jvm.Cond) (o0 : Addr) (o1 : Addr) (kc0 : ClassId) (h0 : Heap) (n0 : Nat) (Z0 : n0 ≤ h0.size) (P0 : Arv Z h0 o1 kc0 .char (0 : Int32) [] (.int 0)) (P1 : Exa Z h0 o0 "java/lang/String") (P2 : Fld Z h0 o0 "java/lang/String" "value" "[B" .null) (P3 : Fld Z h0 o0 "java/lang/String" "coder" "B" (.int 0)) (ge0p : n0 ≤ o0) :
    MetFree l (⟨"java/lang/String", "<init>", "([C)V"⟩ : MethodName) (head1 (Jvm.Cond.code (⟨"java/lang/String", "<init>", "([C)V"⟩ : MethodName) jdk_42_method_3_code 2 none :: ws) ({ frames := 2, cells := 4, slots := 8, locals := 29 } : Room)) (fun aA U => aA = #[(.ref o0), (.ref o1)] ∧ Z.Warmed39 U.vm ∧ U.heap = h0 ∧ CHv Z own_EL U.vm h0) (fun _ _ _ _ _ => True) (fun _ U o U' => ∃ v L, o = .returned v ∧ Q_init_15 Z o0 h0 n0 v U'.heap L ∧ CHr Z own_EL U.vm U.heap U'.vm U'.heap ∧ ReturnedEndW U o U' L ({ frames := 2, cells := 4, slots := 8, locals := 29 } : Room).cells ({ frames := 2, cells := 4, slots := 8, locals := 29 } : Room).slots) := by
  refine MetFree.of_bodySF (plainFor_of_name own_pn_java_lang_String) hisR ?_
  intro p e s m args below meth c s₁ Bd hml0 hP hK
  obtain ⟨rfl, hZ, hh, hC0⟩ := hP
  have hx := Bd.exec
  have hby := Bd.bytes
  have hlk : meth.locks = false := BodyLoose.notSynchronized Bd
  have hml : c.maxLocals = 2 := hml0
  have hown : s.vm.findClass "java/lang/String" = some m.cls := findClass_of_methodNamed Bd.named
  have hnm := (name_of_methodNamed Bd.named Bd.method).1
  have X0 : Stand p l e ({ frames := 2, cells := 4, slots := 8, locals := 29 } : Room) (s.setVm s.vm) m #[(.ref o0), (.ref o1)] below meth c s₁ [] 0 0 := Stand.of_body Bd
  have e0 : s₁.heap = h0 := by rw [← hh, Bd.state]; rfl
  have N0 := Fr.nil n0
  have hS : s.Since s.vm 0 := (State.WarmedH.refl s).since 0
  have hk := Nat.zero_le h0.size
  have hEL : EW Z a0 own_EL := own_ew hw
  have A0 : CHr Z own_EL s.vm h0 s.vm h0 := CHr.refl hC0
  have K0 : Keep h0 h0 [o0] := Keep.refl _ _
  show oG p e below (own_KW Z own_EL s (Q_init_15 Z o0 h0 n0) ({ frames := 2, cells := 4, slots := 8, locals := 29 } : Room).cells ({ frames := 2, cells := 4, slots := 8, locals := 29 } : Room).slots) (s₁.setTop (entryFrame m #[(.ref o0), (.ref o1)] 2))
  rw [(by first | (simp [entryFrame, mkF, argsToLocals, Value.category]; done) | rfl : entryFrame m #[(.ref o0), (.ref o1)] 2 = mkF m 0 #[sR o0, sR o1] [])]
  show oG p e below _ (s₁.setTop (mkF m 0 #[sR o0, sR o1] []))
  refine og (fun _ hr => XS.aloadN X0.here hx rfl (hb hby dc1_0) rfl rfl (XS.aloadN X0.here hx rfl (hb hby dc1_1) rfl rfl (XS.iconst X0.here hx rfl (hb hby dc1_2) (XS.aloadN X0.here hx rfl (hb hby dc1_3) rfl rfl (own_alen X0 hx hZ e0 P0 rfl rfl (hb hby dc1_4) (XS.aconstNull X0.here hx rfl (hb hby dc1_5) hr)))))) ?_
  show oG p e below _ (s₁.setTop (mkF m 6 #[sR o0, sR o1] [.null, (.int 0), (.int 0), (.ref o1), (.ref o0)]))
  have hZo2 := hZ
  refine own_cpW X0 hx hZ hown rfl (hw _ (own_m 7 rfl)) (hw _ (own_m 8 rfl)) (hw _ (own_m 3 rfl)) (hw _ (own_m 10 rfl)) (by decide) (rm := { frames := 1, cells := 4, slots := 8, locals := 12 }) (rm_init_14 l Z a0 hw [] o0 o1 h0 n0 Z0 P1 P2 P3 ge0p) (by decide) (W := 0) (by decide) (by decide) (by decide) e0 hEL A0.1 hS hk (by rw [hml]; rfl) (argsL := [(.ref o1), (.int 0), (.int 0), .null]) (lenOf own_pd28 rfl) (rest := []) rfl rfl (Nat.le_of_eq rfl) (hb hby dc1_6) ?_
  intro _ T1 L1 X1 hQ1 Ac1 hS hZ hown
  obtain ⟨b1_0, kb1_0, rfl, N1q, K1, f1_0, f1_1, f1_2⟩ := hQ1
  have N1 := Fr.app N0 N1q
  show oG p e below _ (T1.setTop (mkF m 9 #[sR o0, sR o1] []))
  have K3 := (K0.trans K1 (allS (Or.inl (List.mem_of_getElem? (i := 0) rfl)) all0))
  have A4 := A0.trans Ac1
  exact own_ret0W X1 hx hlk Bd.returns hS (Nat.le_refl _) hZ hEL hh rfl A4 (hb hby dc1_9) (by decide) (by decide) (by exact ⟨b1_0, kb1_0, rfl, N1, K3, f1_0, f1_1, f1_2⟩)
def Q_law (Z : State) (h0 : Heap) (n0 : Nat) (v : Option Value) (h : Heap) (L : List Loc) : Prop := v = some (.int 1) ∧ Fr n0 L
set_option maxRecDepth 65536 in
set_option maxHeartbeats 40000000 in
theorem rm_law (l : Launch) (Z : State) (a0 : Array Value) (hw : ∀ d ∈ tables_1, d.before a0 Z = true) (ws : List Jvm.Cond) (x0 : Int64) (x1 : Int32) (x2 : Int32) (x3 : Int32) (i_COMPACT_STRINGS : Int32) (v_SIOOBE_FORMATTER : Value) (nN_ : Nat) (ist_ : Addr) (da_ : Addr) (db_ : Addr) (Da_ : Cell) (Db_ : Cell) (h0 : Heap) (n0 : Nat) (Z0 : n0 ≤ h0.size) (S_COMPACT_STRINGS : Sta Z h0 "java/lang/String" "COMPACT_STRINGS" "Z" (.int i_COMPACT_STRINGS)) (S_SIOOBE_FORMATTER : Sta Z h0 "jdk/internal/util/Preconditions" "SIOOBE_FORMATTER" "Ljava/util/function/BiFunction;" v_SIOOBE_FORMATTER) (hs_COMPACT_STRINGS : ¬ (i_COMPACT_STRINGS = (0 : Int32))) (hv_SIOOBE_FORMATTER : v_SIOOBE_FORMATTER.isRef = true) (hn63_ : nN_ ≤ 2 ^ 63) (hng_ : (if x0 < 0 then x0 else -x0) = Jvm.Free.SBG.negL nN_) (Td_ : own_T Z h0 ist_ da_ db_ Da_ Db_) (htn_ : ist_ < n0 ∧ da_ < n0 ∧ db_ < n0) :
    MetFree l x (head1 (Jvm.Cond.code x code maxLocals ret :: ws) room_1) (fun aA U => aA = #[(.long x0), (.int x1), (.int x2), (.int x3)] ∧ Z.Warmed39 U.vm ∧ U.heap = h0 ∧ CHv Z own_EL U.vm h0) (fun _ _ _ _ _ => True) (fun _ U o U' => ∃ v L, o = .returned v ∧ Q_law Z h0 n0 v U'.heap L ∧ CHr Z own_EL U.vm U.heap U'.vm U'.heap ∧ ReturnedEndW U o U' L room_1.cells room_1.slots) := by
  refine MetFree.of_bodySF (plainFor_of_name own_pn_com_example_strict_tariff_stricttariff_pricing_RefusedReadingMessagePinLaw) hisR ?_
  intro p e s m args below meth c s₁ Bd hml0 hP hK
  obtain ⟨rfl, hZ, hh, hC0⟩ := hP
  have hx := Bd.exec
  have hby := Bd.bytes
  have hlk : meth.locks = false := BodyLoose.notSynchronized Bd
  have hml : c.maxLocals = 25 := hml0
  have hown : s.vm.findClass "com/example/strict_tariff/stricttariff/pricing/RefusedReadingMessagePinLaw" = some m.cls := findClass_of_methodNamed Bd.named
  have hnm := (name_of_methodNamed Bd.named Bd.method).1
  have X0 : Stand p l e room_1 (s.setVm s.vm) m #[(.long x0), (.int x1), (.int x2), (.int x3)] below meth c s₁ [] 0 0 := Stand.of_body Bd
  have e0 : s₁.heap = h0 := by rw [← hh, Bd.state]; rfl
  have N0 := Fr.nil n0
  have hS : s.Since s.vm 0 := (State.WarmedH.refl s).since 0
  have hk := Nat.zero_le h0.size
  have hEL : EW Z a0 own_EL := own_ew hw
  have A0 : CHr Z own_EL s.vm h0 s.vm h0 := CHr.refl hC0
  have K0 : Keep h0 h0 [] := Keep.refl _ _
  show oG p e below (own_KW Z own_EL s (Q_law Z h0 n0) room_1.cells room_1.slots) (s₁.setTop (entryFrame m #[(.long x0), (.int x1), (.int x2), (.int x3)] maxLocals))
  rw [(by first | (simp [entryFrame, mkF, argsToLocals, Value.category, maxLocals]; done) | rfl : entryFrame m #[(.long x0), (.int x1), (.int x2), (.int x3)] maxLocals = mkF m 0 #[sJ x0, sS, sI x1, sI x2, sI x3, sU, sU, sU, sU, sU, sU, sU, sU, sU, sU, sU, sU, sU, sU, sU, sU, sU, sU, sU, sU] [])]
  show oG p e below _ (s₁.setTop (mkF m 0 #[sJ x0, sS, sI x1, sI x2, sI x3, sU, sU, sU, sU, sU, sU, sU, sU, sU, sU, sU, sU, sU, sU, sU, sU, sU, sU, sU, sU] []))
  refine og (fun _ hr => XS.iloadN X0.here hx rfl (hb hby at_0) rfl (XS.iconst X0.here hx rfl (hb hby at_1) (XS.iand X0.here hx rfl (hb hby at_2) rfl (XS.istore X0.here hx rfl (hb hby at_3) rfl (l' := #[sJ x0, sS, sI x1, sI x2, sI x3, sI (x2 &&& (3 : Int32)), sU, sU, sU, sU, sU, sU, sU, sU, sU, sU, sU, sU, sU, sU, sU, sU, sU, sU, sU]) rfl (XS.iloadN X0.here hx rfl (hb hby at_5) rfl (XS.sipush X0.here hx rfl (hb hby at_6) (XS.iand X0.here hx rfl (hb hby at_9) rfl (XS.i2c X0.here hx rfl (hb hby at_10) rfl (XS.istore X0.here hx rfl (hb hby at_11) rfl (l' := #[sJ x0, sS, sI x1, sI x2, sI x3, sI (x2 &&& (3 : Int32)), sI ((x1 &&& (255 : Int32)).toUInt32.toUInt16.toUInt32.toInt32), sU, sU, sU, sU, sU, sU, sU, sU, sU, sU, sU, sU, sU, sU, sU, sU, sU, sU]) rfl hr))))))))) ?_
  show oG p e below _ (s₁.setTop (mkF m 13 #[sJ x0, sS, sI x1, sI x2, sI x3, sI (x2 &&& (3 : Int32)), sI ((x1 &&& (255 : Int32)).toUInt32.toUInt16.toUInt32.toInt32), sU, sU, sU, sU, sU, sU, sU, sU, sU, sU, sU, sU, sU, sU, sU, sU, sU, sU] []))
  generalize hca_ : ((x1 &&& (255 : Int32)).toUInt32.toUInt16.toUInt32.toInt32) = ca_
  refine og (fun _ hr => XS.iloadN X0.here hx rfl (hb hby at_13) rfl (XS.bipush X0.here hx rfl (hb hby at_14) (XS.iushr X0.here hx rfl (hb hby at_16) rfl (XS.sipush X0.here hx rfl (hb hby at_17) (XS.iand X0.here hx rfl (hb hby at_20) rfl (XS.i2c X0.here hx rfl (hb hby at_21) rfl (XS.istore X0.here hx rfl (hb hby at_22) rfl (l' := #[sJ x0, sS, sI x1, sI x2, sI x3, sI (x2 &&& (3 : Int32)), sI ca_, .val (.int ((((x1.toUInt32 >>> ((8 : Int32) &&& 31).toUInt32).toInt32) &&& (255 : Int32)).toUInt32.toUInt16.toUInt32.toInt32)), sU, sU, sU, sU, sU, sU, sU, sU, sU, sU, sU, sU, sU, sU, sU, sU, sU]) rfl hr))))))) ?_
  show oG p e below _ (s₁.setTop (mkF m 24 #[sJ x0, sS, sI x1, sI x2, sI x3, sI (x2 &&& (3 : Int32)), sI ca_, .val (.int ((((x1.toUInt32 >>> ((8 : Int32) &&& 31).toUInt32).toInt32) &&& (255 : Int32)).toUInt32.toUInt16.toUInt32.toInt32)), sU, sU, sU, sU, sU, sU, sU, sU, sU, sU, sU, sU, sU, sU, sU, sU, sU] []))
  generalize hcb_ : ((((x1.toUInt32 >>> ((8 : Int32) &&& 31).toUInt32).toInt32) &&& (255 : Int32)).toUInt32.toUInt16.toUInt32.toInt32) = cb_
  refine og (fun _ hr => XS.iloadN X0.here hx rfl (hb hby at_24) rfl (XS.bipush X0.here hx rfl (hb hby at_25) (XS.iushr X0.here hx rfl (hb hby at_27) rfl (XS.sipush X0.here hx rfl (hb hby at_28) (XS.iand X0.here hx rfl (hb hby at_31) rfl (XS.i2c X0.here hx rfl (hb hby at_32) rfl (XS.istore X0.here hx rfl (hb hby at_33) rfl (l' := #[sJ x0, sS, sI x1, sI x2, sI x3, sI (x2 &&& (3 : Int32)), sI ca_, sI cb_, .val (.int ((((x1.toUInt32 >>> ((16 : Int32) &&& 31).toUInt32).toInt32) &&& (255 : Int32)).toUInt32.toUInt16.toUInt32.toInt32)), sU, sU, sU, sU, sU, sU, sU, sU, sU, sU, sU, sU, sU, sU, sU, sU]) rfl hr))))))) ?_
  show oG p e below _ (s₁.setTop (mkF m 35 #[sJ x0, sS, sI x1, sI x2, sI x3, sI (x2 &&& (3 : Int32)), sI ca_, sI cb_, .val (.int ((((x1.toUInt32 >>> ((16 : Int32) &&& 31).toUInt32).toInt32) &&& (255 : Int32)).toUInt32.toUInt16.toUInt32.toInt32)), sU, sU, sU, sU, sU, sU, sU, sU, sU, sU, sU, sU, sU, sU, sU, sU] []))
  generalize hcc_ : ((((x1.toUInt32 >>> ((16 : Int32) &&& 31).toUInt32).toInt32) &&& (255 : Int32)).toUInt32.toUInt16.toUInt32.toInt32) = cc_
  refine og (fun _ hr => XS.iconst X0.here hx rfl (hb hby at_35) hr) ?_
  show oG p e below _ (s₁.setTop (mkF m 36 #[sJ x0, sS, sI x1, sI x2, sI x3, sI (x2 &&& (3 : Int32)), sI ca_, sI cb_, sI cc_, sU, sU, sU, sU, sU, sU, sU, sU, sU, sU, sU, sU, sU, sU, sU, sU] [(.int 0)]))
  obtain ⟨T1, h1, k1, X1, e1, E1, A1, EA1, st1⟩ := newPE X0 hx hZ (hw _ (own_m 0 rfl)) e0 (g := (mkF m 36 #[sJ x0, sS, sI x1, sI x2, sI x3, sI (x2 &&& (3 : Int32)), sI ca_, sI cb_, sI cc_, sU, sU, sU, sU, sU, sU, sU, sU, sU, sU, sU, sU, sU, sU, sU, sU] [(.int 0)])) rfl (hb hby at_36) rfl (by decide) (cap := 0) (by decide) (by decide) (by decide) (by decide) (ad := "[C") (by decide)
  obtain ⟨b1, g1⟩ : ∃ z, z = h0.size := ⟨_, rfl⟩
  rw [← g1] at A1 EA1 st1
  have ge2 : n0 ≤ b1 := Nat.le_trans Z0 (Nat.le_of_eq g1.symm)
  have sz3 : h0.size ≤ b1 := Nat.le_trans K0.1 (Nat.le_of_eq g1.symm)
  refine og st1 ?_
  have f4 : Arv Z h1 b1 k1 .char (0 : Int32) [] (.int 0) := (Arv.new A1 (by decide)).pad (pad_rep [] (.int 0) 0)
  show oG p e below _ (T1.setTop (mkF m 38 #[sJ x0, sS, sI x1, sI x2, sI x3, sI (x2 &&& (3 : Int32)), sI ca_, sI cb_, sI cc_, sU, sU, sU, sU, sU, sU, sU, sU, sU, sU, sU, sU, sU, sU, sU, sU] [(.ref b1)]))
  refine og (fun _ hr => XS.astore X1.here hx rfl (hb hby at_38) rfl rfl (l' := #[sJ x0, sS, sI x1, sI x2, sI x3, sI (x2 &&& (3 : Int32)), sI ca_, sI cb_, sI cc_, sR b1, sU, sU, sU, sU, sU, sU, sU, sU, sU, sU, sU, sU, sU, sU, sU]) rfl (XS.iconst X1.here hx rfl (hb hby at_40) hr)) ?_
  show oG p e below _ (T1.setTop (mkF m 41 #[sJ x0, sS, sI x1, sI x2, sI x3, sI (x2 &&& (3 : Int32)), sI ca_, sI cb_, sI cc_, sR b1, sU, sU, sU, sU, sU, sU, sU, sU, sU, sU, sU, sU, sU, sU, sU] [(.int 1)]))
  obtain ⟨T5, h5, k5, X5, e5, E5, A5, EA5, st5⟩ := newPE X1 hx hZ (hw _ (own_m 0 rfl)) e1 (g := (mkF m 41 #[sJ x0, sS, sI x1, sI x2, sI x3, sI (x2 &&& (3 : Int32)), sI ca_, sI cb_, sI cc_, sR b1, sU, sU, sU, sU, sU, sU, sU, sU, sU, sU, sU, sU, sU, sU, sU] [(.int 1)])) rfl (hb hby at_41) rfl (by decide) (cap := 1) (by decide) (by decide) (by decide) (by decide) (ad := "[C") (by decide)
  obtain ⟨b5, g5⟩ : ∃ z, z = h1.size := ⟨_, rfl⟩
  rw [← g5] at A5 EA5 st5
  have Z6 := (Nat.le_trans Z0 E1.1)
  have ge7 : n0 ≤ b5 := Nat.le_trans Z6 (Nat.le_of_eq g5.symm)
  have K8 := (K0.ext E1)
  have sz9 : h0.size ≤ b5 := Nat.le_trans K8.1 (Nat.le_of_eq g5.symm)
  refine og st5 ?_
  have f10 : Arv Z h5 b5 k5 .char (1 : Int32) [(.int 0)] (.int 0) := (Arv.new A5 (by decide)).pad (pad_rep [] (.int 0) 1)
  show oG p e below _ (T5.setTop (mkF m 43 #[sJ x0, sS, sI x1, sI x2, sI x3, sI (x2 &&& (3 : Int32)), sI ca_, sI cb_, sI cc_, sR b1, sU, sU, sU, sU, sU, sU, sU, sU, sU, sU, sU, sU, sU, sU, sU] [(.ref b5)]))
  refine og (fun _ hr => XS.dup X5.here hx rfl (hb hby at_43) rfl rfl (XS.iconst X5.here hx rfl (hb hby at_44) (XS.iload X5.here hx rfl (hb hby at_45) rfl hr))) ?_
  show oG p e below _ (T5.setTop (mkF m 47 #[sJ x0, sS, sI x1, sI x2, sI x3, sI (x2 &&& (3 : Int32)), sI ca_, sI cb_, sI cc_, sR b1, sU, sU, sU, sU, sU, sU, sU, sU, sU, sU, sU, sU, sU, sU, sU] [(.int ca_), (.int 0), (.ref b5), (.ref b5)]))
  have c12 : (nar .char ca_) = ca_ := by
    have q0 := rng32 x1
    have q1 := c_mask x1 (255 : Int32) 8 (by decide) (by decide)
    have q2 := c_i2c (x1 &&& (255 : Int32))
    have q3 := congrArg Int32.toInt hca_
    have q4 := (show ((nar .char ca_).toInt - ca_.toInt) % 65536 = 0 ∧ 0 ≤ (nar .char ca_).toInt ∧ (nar .char ca_).toInt < 65536 from c_i2c ca_)
    simp only [true_implies, Int32.lt_iff_toInt_lt, ← Int32.toInt_inj, Int32.reduceToInt, Int64.lt_iff_toInt_lt, ← Int64.toInt_inj, Int64.reduceToInt] at q0 q1 q2 q3 q4 ⊢
    omega
  refine own_stC X5 hx hZ e5 f10 (0 : Int32) ca_ ca_ 0 ⟨by decide, by decide⟩ rfl (Nat.le_of_ble_eq_true rfl) c12 [(.int ca_)] rfl N0 ge7 (hb hby at_47) ?_
  intro T11 h11 L11 X11 e11 W11 N11 f11
  show oG p e below _ (T11.setTop (mkF m 48 #[sJ x0, sS, sI x1, sI x2, sI x3, sI (x2 &&& (3 : Int32)), sI ca_, sI cb_, sI cc_, sR b1, sU, sU, sU, sU, sU, sU, sU, sU, sU, sU, sU, sU, sU, sU, sU] [(.ref b5)]))
  refine og (fun _ hr => XS.astore X11.here hx rfl (hb hby at_48) rfl rfl (l' := #[sJ x0, sS, sI x1, sI x2, sI x3, sI (x2 &&& (3 : Int32)), sI ca_, sI cb_, sI cc_, sR b1, sR b5, sU, sU, sU, sU, sU, sU, sU, sU, sU, sU, sU, sU, sU, sU]) rfl (XS.iconst X11.here hx rfl (hb hby at_50) hr)) ?_
  show oG p e below _ (T11.setTop (mkF m 51 #[sJ x0, sS, sI x1, sI x2, sI x3, sI (x2 &&& (3 : Int32)), sI ca_, sI cb_, sI cc_, sR b1, sR b5, sU, sU, sU, sU, sU, sU, sU, sU, sU, sU, sU, sU, sU, sU] [(.int 2)]))
  obtain ⟨T13, h13, k13, X13, e13, E13, A13, EA13, st13⟩ := newPE X11 hx hZ (hw _ (own_m 0 rfl)) e11 (g := (mkF m 51 #[sJ x0, sS, sI x1, sI x2, sI x3, sI (x2 &&& (3 : Int32)), sI ca_, sI cb_, sI cc_, sR b1, sR b5, sU, sU, sU, sU, sU, sU, sU, sU, sU, sU, sU, sU, sU, sU] [(.int 2)])) rfl (hb hby at_51) rfl (by decide) (cap := 2) (by decide) (by decide) (by decide) (by decide) (ad := "[C") (by decide)
  obtain ⟨b13, g13⟩ : ∃ z, z = h11.size := ⟨_, rfl⟩
  rw [← g13] at A13 EA13 st13
  have Z14 := (Nat.le_trans (Nat.le_trans Z6 E5.1) (Nat.le_of_eq W11.size.symm))
  have ge15 : n0 ≤ b13 := Nat.le_trans Z14 (Nat.le_of_eq g13.symm)
  have K16 := ((K8.ext E5).wr W11 (Or.inr sz9))
  have sz17 : h0.size ≤ b13 := Nat.le_trans K16.1 (Nat.le_of_eq g13.symm)
  refine og st13 ?_
  have f18 : Arv Z h13 b13 k13 .char (2 : Int32) [(.int 0), (.int 0)] (.int 0) := (Arv.new A13 (by decide)).pad (pad_rep [] (.int 0) 2)
  show oG p e below _ (T13.setTop (mkF m 53 #[sJ x0, sS, sI x1, sI x2, sI x3, sI (x2 &&& (3 : Int32)), sI ca_, sI cb_, sI cc_, sR b1, sR b5, sU, sU, sU, sU, sU, sU, sU, sU, sU, sU, sU, sU, sU, sU] [(.ref b13)]))
  refine og (fun _ hr => XS.dup X13.here hx rfl (hb hby at_53) rfl rfl (XS.iconst X13.here hx rfl (hb hby at_54) (XS.iload X13.here hx rfl (hb hby at_55) rfl hr))) ?_
  show oG p e below _ (T13.setTop (mkF m 57 #[sJ x0, sS, sI x1, sI x2, sI x3, sI (x2 &&& (3 : Int32)), sI ca_, sI cb_, sI cc_, sR b1, sR b5, sU, sU, sU, sU, sU, sU, sU, sU, sU, sU, sU, sU, sU, sU] [(.int ca_), (.int 0), (.ref b13), (.ref b13)]))
  refine own_stC X13 hx hZ e13 f18 (0 : Int32) ca_ ca_ 0 ⟨by decide, by decide⟩ rfl (Nat.le_of_ble_eq_true rfl) c12 [(.int ca_), (.int 0)] rfl N11 ge15 (hb hby at_57) ?_
  intro T19 h19 L19 X19 e19 W19 N19 f19
  show oG p e below _ (T19.setTop (mkF m 58 #[sJ x0, sS, sI x1, sI x2, sI x3, sI (x2 &&& (3 : Int32)), sI ca_, sI cb_, sI cc_, sR b1, sR b5, sU, sU, sU, sU, sU, sU, sU, sU, sU, sU, sU, sU, sU, sU] [(.ref b13)]))
  refine og (fun _ hr => XS.dup X19.here hx rfl (hb hby at_58) rfl rfl (XS.iconst X19.here hx rfl (hb hby at_59) (XS.iload X19.here hx rfl (hb hby at_60) rfl hr))) ?_
  show oG p e below _ (T19.setTop (mkF m 62 #[sJ x0, sS, sI x1, sI x2, sI x3, sI (x2 &&& (3 : Int32)), sI ca_, sI cb_, sI cc_, sR b1, sR b5, sU, sU, sU, sU, sU, sU, sU, sU, sU, sU, sU, sU, sU, sU] [(.int cb_), (.int 1), (.ref b13), (.ref b13)]))
  have c21 : (nar .char cb_) = cb_ := by
    have q0 := rng32 x1
    have q1 := c_mask x1 (255 : Int32) 8 (by decide) (by decide)
    have q2 := c_i2c (x1 &&& (255 : Int32))
    have q3 := congrArg Int32.toInt hca_
    have q4 := (show ((nar .char ca_).toInt - ca_.toInt) % 65536 = 0 ∧ 0 ≤ (nar .char ca_).toInt ∧ (nar .char ca_).toInt < 65536 from c_i2c ca_)
    have q5 := c_iushr x1 (8 : Int32) 8 (by decide) (by decide)
    have q6 := c_mask ((x1.toUInt32 >>> ((8 : Int32) &&& 31).toUInt32).toInt32) (255 : Int32) 8 (by decide) (by decide)
    have q7 := c_i2c (((x1.toUInt32 >>> ((8 : Int32) &&& 31).toUInt32).toInt32) &&& (255 : Int32))
    have q8 := congrArg Int32.toInt hcb_
    have q9 := (show ((nar .char cb_).toInt - cb_.toInt) % 65536 = 0 ∧ 0 ≤ (nar .char cb_).toInt ∧ (nar .char cb_).toInt < 65536 from c_i2c cb_)
    have p0 := c12
    simp only [true_implies, Int32.lt_iff_toInt_lt, ← Int32.toInt_inj, Int32.reduceToInt, Int64.lt_iff_toInt_lt, ← Int64.toInt_inj, Int64.reduceToInt] at q0 q1 q2 q3 q4 q5 q6 q7 q8 q9 p0 ⊢
    omega
  refine own_stC X19 hx hZ e19 f19 (1 : Int32) cb_ cb_ 1 ⟨by decide, by decide⟩ rfl (Nat.le_of_ble_eq_true rfl) c21 [(.int ca_), (.int cb_)] rfl N19 ge15 (hb hby at_62) ?_
  intro T20 h20 L20 X20 e20 W20 N20 f20
  show oG p e below _ (T20.setTop (mkF m 63 #[sJ x0, sS, sI x1, sI x2, sI x3, sI (x2 &&& (3 : Int32)), sI ca_, sI cb_, sI cc_, sR b1, sR b5, sU, sU, sU, sU, sU, sU, sU, sU, sU, sU, sU, sU, sU, sU] [(.ref b13)]))
  refine og (fun _ hr => XS.astore X20.here hx rfl (hb hby at_63) rfl rfl (l' := #[sJ x0, sS, sI x1, sI x2, sI x3, sI (x2 &&& (3 : Int32)), sI ca_, sI cb_, sI cc_, sR b1, sR b5, sR b13, sU, sU, sU, sU, sU, sU, sU, sU, sU, sU, sU, sU, sU]) rfl (XS.iconst X20.here hx rfl (hb hby at_65) hr)) ?_
  show oG p e below _ (T20.setTop (mkF m 66 #[sJ x0, sS, sI x1, sI x2, sI x3, sI (x2 &&& (3 : Int32)), sI ca_, sI cb_, sI cc_, sR b1, sR b5, sR b13, sU, sU, sU, sU, sU, sU, sU, sU, sU, sU, sU, sU, sU] [(.int 3)]))
  obtain ⟨T22, h22, k22, X22, e22, E22, A22, EA22, st22⟩ := newPE X20 hx hZ (hw _ (own_m 0 rfl)) e20 (g := (mkF m 66 #[sJ x0, sS, sI x1, sI x2, sI x3, sI (x2 &&& (3 : Int32)), sI ca_, sI cb_, sI cc_, sR b1, sR b5, sR b13, sU, sU, sU, sU, sU, sU, sU, sU, sU, sU, sU, sU, sU] [(.int 3)])) rfl (hb hby at_66) rfl (by decide) (cap := 3) (by decide) (by decide) (by decide) (by decide) (ad := "[C") (by decide)
  obtain ⟨b22, g22⟩ : ∃ z, z = h20.size := ⟨_, rfl⟩
  rw [← g22] at A22 EA22 st22
  have Z23 := (Nat.le_trans (Nat.le_trans (Nat.le_trans Z14 E13.1) (Nat.le_of_eq W19.size.symm)) (Nat.le_of_eq W20.size.symm))
  have ge24 : n0 ≤ b22 := Nat.le_trans Z23 (Nat.le_of_eq g22.symm)
  have K25 := (((K16.ext E13).wr W19 (Or.inr sz17)).wr W20 (Or.inr sz17))
  have sz26 : h0.size ≤ b22 := Nat.le_trans K25.1 (Nat.le_of_eq g22.symm)
  refine og st22 ?_
  have f27 : Arv Z h22 b22 k22 .char (3 : Int32) [(.int 0), (.int 0), (.int 0)] (.int 0) := (Arv.new A22 (by decide)).pad (pad_rep [] (.int 0) 3)
  show oG p e below _ (T22.setTop (mkF m 68 #[sJ x0, sS, sI x1, sI x2, sI x3, sI (x2 &&& (3 : Int32)), sI ca_, sI cb_, sI cc_, sR b1, sR b5, sR b13, sU, sU, sU, sU, sU, sU, sU, sU, sU, sU, sU, sU, sU] [(.ref b22)]))
  refine og (fun _ hr => XS.dup X22.here hx rfl (hb hby at_68) rfl rfl (XS.iconst X22.here hx rfl (hb hby at_69) (XS.iload X22.here hx rfl (hb hby at_70) rfl hr))) ?_
  show oG p e below _ (T22.setTop (mkF m 72 #[sJ x0, sS, sI x1, sI x2, sI x3, sI (x2 &&& (3 : Int32)), sI ca_, sI cb_, sI cc_, sR b1, sR b5, sR b13, sU, sU, sU, sU, sU, sU, sU, sU, sU, sU, sU, sU, sU] [(.int ca_), (.int 0), (.ref b22), (.ref b22)]))
  refine own_stC X22 hx hZ e22 f27 (0 : Int32) ca_ ca_ 0 ⟨by decide, by decide⟩ rfl (Nat.le_of_ble_eq_true rfl) c12 [(.int ca_), (.int 0), (.int 0)] rfl N20 ge24 (hb hby at_72) ?_
  intro T28 h28 L28 X28 e28 W28 N28 f28
  show oG p e below _ (T28.setTop (mkF m 73 #[sJ x0, sS, sI x1, sI x2, sI x3, sI (x2 &&& (3 : Int32)), sI ca_, sI cb_, sI cc_, sR b1, sR b5, sR b13, sU, sU, sU, sU, sU, sU, sU, sU, sU, sU, sU, sU, sU] [(.ref b22)]))
  refine og (fun _ hr => XS.dup X28.here hx rfl (hb hby at_73) rfl rfl (XS.iconst X28.here hx rfl (hb hby at_74) (XS.iload X28.here hx rfl (hb hby at_75) rfl hr))) ?_
  show oG p e below _ (T28.setTop (mkF m 77 #[sJ x0, sS, sI x1, sI x2, sI x3, sI (x2 &&& (3 : Int32)), sI ca_, sI cb_, sI cc_, sR b1, sR b5, sR b13, sU, sU, sU, sU, sU, sU, sU, sU, sU, sU, sU, sU, sU] [(.int cb_), (.int 1), (.ref b22), (.ref b22)]))
  refine own_stC X28 hx hZ e28 f28 (1 : Int32) cb_ cb_ 1 ⟨by decide, by decide⟩ rfl (Nat.le_of_ble_eq_true rfl) c21 [(.int ca_), (.int cb_), (.int 0)] rfl N28 ge24 (hb hby at_77) ?_
  intro T29 h29 L29 X29 e29 W29 N29 f29
  show oG p e below _ (T29.setTop (mkF m 78 #[sJ x0, sS, sI x1, sI x2, sI x3, sI (x2 &&& (3 : Int32)), sI ca_, sI cb_, sI cc_, sR b1, sR b5, sR b13, sU, sU, sU, sU, sU, sU, sU, sU, sU, sU, sU, sU, sU] [(.ref b22)]))
  refine og (fun _ hr => XS.dup X29.here hx rfl (hb hby at_78) rfl rfl (XS.iconst X29.here hx rfl (hb hby at_79) (XS.iload X29.here hx rfl (hb hby at_80) rfl hr))) ?_
  show oG p e below _ (T29.setTop (mkF m 82 #[sJ x0, sS, sI x1, sI x2, sI x3, sI (x2 &&& (3 : Int32)), sI ca_, sI cb_, sI cc_, sR b1, sR b5, sR b13, sU, sU, sU, sU, sU, sU, sU, sU, sU, sU, sU, sU, sU] [(.int cc_), (.int 2), (.ref b22), (.ref b22)]))
  have c31 : (nar .char cc_) = cc_ := by
    have q0 := rng32 x1
    have q1 := c_mask x1 (255 : Int32) 8 (by decide) (by decide)
    have q2 := c_i2c (x1 &&& (255 : Int32))
    have q3 := congrArg Int32.toInt hca_
    have q4 := (show ((nar .char ca_).toInt - ca_.toInt) % 65536 = 0 ∧ 0 ≤ (nar .char ca_).toInt ∧ (nar .char ca_).toInt < 65536 from c_i2c ca_)
    have q5 := c_iushr x1 (8 : Int32) 8 (by decide) (by decide)
    have q6 := c_mask ((x1.toUInt32 >>> ((8 : Int32) &&& 31).toUInt32).toInt32) (255 : Int32) 8 (by decide) (by decide)
    have q7 := c_i2c (((x1.toUInt32 >>> ((8 : Int32) &&& 31).toUInt32).toInt32) &&& (255 : Int32))
    have q8 := congrArg Int32.toInt hcb_
    have q9 := (show ((nar .char cb_).toInt - cb_.toInt) % 65536 = 0 ∧ 0 ≤ (nar .char cb_).toInt ∧ (nar .char cb_).toInt < 65536 from c_i2c cb_)
    have q10 := c_iushr x1 (16 : Int32) 16 (by decide) (by decide)
    have q11 := c_mask ((x1.toUInt32 >>> ((16 : Int32) &&& 31).toUInt32).toInt32) (255 : Int32) 8 (by decide) (by decide)
    have q12 := c_i2c (((x1.toUInt32 >>> ((16 : Int32) &&& 31).toUInt32).toInt32) &&& (255 : Int32))
    have q13 := congrArg Int32.toInt hcc_
    have q14 := (show ((nar .char cc_).toInt - cc_.toInt) % 65536 = 0 ∧ 0 ≤ (nar .char cc_).toInt ∧ (nar .char cc_).toInt < 65536 from c_i2c cc_)
    have p0 := c12
    have p1 := c21
    simp only [true_implies, Int32.lt_iff_toInt_lt, ← Int32.toInt_inj, Int32.reduceToInt, Int64.lt_iff_toInt_lt, ← Int64.toInt_inj, Int64.reduceToInt] at q0 q1 q2 q3 q4 q5 q6 q7 q8 q9 q10 q11 q12 q13 q14 p0 p1 ⊢
    omega
  refine own_stC X29 hx hZ e29 f29 (2 : Int32) cc_ cc_ 2 ⟨by decide, by decide⟩ rfl (Nat.le_of_ble_eq_true rfl) c31 [(.int ca_), (.int cb_), (.int cc_)] rfl N29 ge24 (hb hby at_82) ?_
  intro T30 h30 L30 X30 e30 W30 N30 f30
  show oG p e below _ (T30.setTop (mkF m 83 #[sJ x0, sS, sI x1, sI x2, sI x3, sI (x2 &&& (3 : Int32)), sI ca_, sI cb_, sI cc_, sR b1, sR b5, sR b13, sU, sU, sU, sU, sU, sU, sU, sU, sU, sU, sU, sU, sU] [(.ref b22)]))
  refine og (fun _ hr => XS.astore X30.here hx rfl (hb hby at_83) rfl rfl (l' := #[sJ x0, sS, sI x1, sI x2, sI x3, sI (x2 &&& (3 : Int32)), sI ca_, sI cb_, sI cc_, sR b1, sR b5, sR b13, sR b22, sU, sU, sU, sU, sU, sU, sU, sU, sU, sU, sU, sU]) rfl hr) ?_
  show oG p e below _ (T30.setTop (mkF m 85 #[sJ x0, sS, sI x1, sI x2, sI x3, sI (x2 &&& (3 : Int32)), sI ca_, sI cb_, sI cc_, sR b1, sR b5, sR b13, sR b22, sU, sU, sU, sU, sU, sU, sU, sU, sU, sU, sU, sU] []))
  have jM_ : ∀ (Tm : State) (Lm : List Loc) (hm : Heap) (ds_ : List Int32) (nI_ : Int32) (rJ_ bJ_ tJ_ : Addr) (kJ_ : ClassId), Stand p l e room_1 (s.setVm Tm.vm) m #[(.long x0), (.int x1), (.int x2), (.int x3)] below meth c Tm Lm 19 154 → Fr n0 Lm → Tm.heap = hm → Keep h0 hm [] → CHr Z own_EL s.vm h0 Tm.vm hm → s.Since Tm.vm hm.size → Z.Warmed39 Tm.vm → Tm.vm.findClass "com/example/strict_tariff/stricttariff/pricing/RefusedReadingMessagePinLaw" = some m.cls → ((nI_ = (0 : Int32) ∧ ds_ = ([] : List Int32)) ∨ (nI_ = (1 : Int32) ∧ ds_ = [ca_]) ∨ (nI_ = (2 : Int32) ∧ ds_ = [ca_, cb_]) ∨ (nI_ = (3 : Int32) ∧ ds_ = [ca_, cb_, cc_])) → (∀ c ∈ ds_, ¬ c < 0 ∧ ¬ (255 : Int32) < c) → Exa Z hm bJ_ "java/lang/String" → Fld Z hm bJ_ "java/lang/String" "coder" "B" (.int 0) → Fld Z hm bJ_ "java/lang/String" "value" "[B" (.ref tJ_) → Arv Z hm tJ_ kJ_ .byte (Int32.ofNat (own_msg nN_ x0 ds_).length) (own_lb (own_msg nN_ x0 ds_)) (.int 0) → oG p e below (own_KW Z own_EL s (Q_law Z h0 n0) room_1.cells room_1.slots) (Tm.setTop (mkF m 170 #[sJ x0, sS, sI x1, sI x2, sI x3, sI nI_, sI ca_, sI cb_, sI cc_, sR b1, sR b5, sR b13, sR b22, sR rJ_, sR bJ_, sU, sU, sU, sU, sU, sU, sU, sU, sU, sU] [])) := by
    intro Tm Lm hm ds_ nI_ rJ_ bJ_ tJ_ kJ_ Xm Nm em Km Am hS hZ hown hds_ hla_ fE_ fC_ fV_ fA_
    have hln_ : Int32.ofNat ds_.length = nI_ := by rcases hds_ with ⟨rfl, rfl⟩ | ⟨rfl, rfl⟩ | ⟨rfl, rfl⟩ | ⟨rfl, rfl⟩ <;> rfl
    have hl3_ : ds_.length ≤ 3 := by rcases hds_ with ⟨-, rfl⟩ | ⟨-, rfl⟩ | ⟨-, rfl⟩ | ⟨-, rfl⟩ <;> exact Nat.le_of_ble_eq_true rfl
    have hmt_ := own_mlat (n := nN_) (x := x0) hla_
    have hsgl_ := own_sg x0
    have hdl0_ := own_dg hn63_
    show oG p e below _ (Tm.setTop (mkF m 170 #[sJ x0, sS, sI x1, sI x2, sI x3, sI nI_, sI ca_, sI cb_, sI cc_, sR b1, sR b5, sR b13, sR b22, sR rJ_, sR bJ_, sU, sU, sU, sU, sU, sU, sU, sU, sU, sU] []))
    refine og (fun _ hr => XS.aload Xm.here hx rfl (hb hby at_170) rfl rfl hr) ?_
    show oG p e below _ (Tm.setTop (mkF m 172 #[sJ x0, sS, sI x1, sI x2, sI x3, sI nI_, sI ca_, sI cb_, sI cc_, sR b1, sR b5, sR b13, sR b22, sR rJ_, sR bJ_, sU, sU, sU, sU, sU, sU, sU, sU, sU, sU] [(.ref bJ_)]))
    have f33 := (own_sta_keep S_COMPACT_STRINGS Km all0)
    refine own_lens Xm hx hZ hown hw (hw _ (own_m 181 rfl)) (hw _ (own_m 78 rfl)) (hw _ (own_m 80 rfl)) (hw _ (own_m 79 rfl)) (hw _ (own_m 2 rfl)) (own_msg nN_ x0 ds_) fE_ fV_ fC_ fA_ (Or.inl ⟨rfl, rfl, rfl, fun c hc => (hmt_ c hc).2⟩) (own_up hmt_) (by rw [own_mlen]; omega) f33 hs_COMPACT_STRINGS (by decide) (W := 0) (by decide) (by decide) (by decide) em (by rw [hml]; rfl) (Nat.le_of_eq rfl) (hb hby at_172) ?_
    intro T32 X32 e32
    rw [(congrArg Int32.ofNat (own_mlen nN_ x0 ds_))]
    show oG p e below _ (T32.setTop (mkF m 175 #[sJ x0, sS, sI x1, sI x2, sI x3, sI nI_, sI ca_, sI cb_, sI cc_, sR b1, sR b5, sR b13, sR b22, sR rJ_, sR bJ_, sU, sU, sU, sU, sU, sU, sU, sU, sU, sU] [(.int (Int32.ofNat (7 + (Jvm.Free.SBG.digitsL nN_ + Jvm.Free.SBG.GetCharsL.sgnL x0) + ds_.length)))]))
    refine og (fun _ hr => XS.istore X32.here hx rfl (hb hby at_175) rfl (l' := #[sJ x0, sS, sI x1, sI x2, sI x3, sI nI_, sI ca_, sI cb_, sI cc_, sR b1, sR b5, sR b13, sR b22, sR rJ_, sR bJ_, sI (Int32.ofNat (7 + (Jvm.Free.SBG.digitsL nN_ + Jvm.Free.SBG.GetCharsL.sgnL x0) + ds_.length)), sU, sU, sU, sU, sU, sU, sU, sU, sU]) rfl (XS.iload X32.here hx rfl (hb hby at_177) rfl (XS.bipush X32.here hx rfl (hb hby at_179) (XS.isub X32.here hx rfl (hb hby at_181) rfl (XS.iload X32.here hx rfl (hb hby at_182) rfl (XS.isub X32.here hx rfl (hb hby at_184) rfl (XS.istore X32.here hx rfl (hb hby at_185) rfl (l' := #[sJ x0, sS, sI x1, sI x2, sI x3, sI nI_, sI ca_, sI cb_, sI cc_, sR b1, sR b5, sR b13, sR b22, sR rJ_, sR bJ_, sI (Int32.ofNat (7 + (Jvm.Free.SBG.digitsL nN_ + Jvm.Free.SBG.GetCharsL.sgnL x0) + ds_.length)), sI (((Int32.ofNat (7 + (Jvm.Free.SBG.digitsL nN_ + Jvm.Free.SBG.GetCharsL.sgnL x0) + ds_.length)) - (7 : Int32)) - nI_), sU, sU, sU, sU, sU, sU, sU, sU]) rfl hr))))))) ?_
    show oG p e below _ (T32.setTop (mkF m 187 #[sJ x0, sS, sI x1, sI x2, sI x3, sI nI_, sI ca_, sI cb_, sI cc_, sR b1, sR b5, sR b13, sR b22, sR rJ_, sR bJ_, sI (Int32.ofNat (7 + (Jvm.Free.SBG.digitsL nN_ + Jvm.Free.SBG.GetCharsL.sgnL x0) + ds_.length)), sI (((Int32.ofNat (7 + (Jvm.Free.SBG.digitsL nN_ + Jvm.Free.SBG.GetCharsL.sgnL x0) + ds_.length)) - (7 : Int32)) - nI_), sU, sU, sU, sU, sU, sU, sU, sU] []))
    rcases Classical.em (x0 < (0 : Int64)) with c34 | c34
    · skip
      have hsg_ : (Jvm.Free.SBG.GetCharsL.sgnL x0) = 1 := by unfold Jvm.Free.SBG.GetCharsL.sgnL; rw [if_pos c34]
      have hdg_ := own_dg hn63_
      have hxp_ := (own_xp hn63_ hng_).1 c34
      generalize hdd_ : (((Int32.ofNat (7 + (Jvm.Free.SBG.digitsL nN_ + Jvm.Free.SBG.GetCharsL.sgnL x0) + ds_.length)) - (7 : Int32)) - nI_) = d_
      have hdN_ : Int32.ofNat (Jvm.Free.SBG.digitsL nN_ + Jvm.Free.SBG.GetCharsL.sgnL x0) = d_ := (own_m16 hln_ (by omega) hl3_).trans hdd_
      generalize htt_ : (Int32.ofNat (7 + (Jvm.Free.SBG.digitsL nN_ + Jvm.Free.SBG.GetCharsL.sgnL x0) + ds_.length)) = tt_
      show oG p e below _ (T32.setTop (mkF m 187 #[sJ x0, sS, sI x1, sI x2, sI x3, sI nI_, sI ca_, sI cb_, sI cc_, sR b1, sR b5, sR b13, sR b22, sR rJ_, sR bJ_, sI tt_, sI d_, sU, sU, sU, sU, sU, sU, sU, sU] []))
      refine og (fun _ hr => XS.lloadN X32.here hx rfl (hb hby at_187) rfl (XS.lconst X32.here hx rfl (hb hby at_188) (XS.lcmp X32.here hx rfl (hb hby at_189) rfl hr))) ?_
      show oG p e below _ (T32.setTop (mkF m 190 #[sJ x0, sS, sI x1, sI x2, sI x3, sI nI_, sI ca_, sI cb_, sI cc_, sR b1, sR b5, sR b13, sR b22, sR rJ_, sR bJ_, sI tt_, sI d_, sU, sU, sU, sU, sU, sU, sU, sU] [(.int (lcmpW x0 (0 : Int64)))]))
      have c35 : (lcmpW x0 (0 : Int64)) < (0 : Int32) := by
        have q0 := rng64 x0
        have q1 := c_lcmp x0 (0 : Int64)
        have p0 := c34
        simp only [true_implies, Int32.lt_iff_toInt_lt, ← Int32.toInt_inj, Int32.reduceToInt, Int64.lt_iff_toInt_lt, ← Int64.toInt_inj, Int64.reduceToInt] at q0 q1 p0 ⊢
        omega
      refine og (fun _ hr => XS.ifNo X32.here hx rfl (hb hby at_190) rfl ((if0 _ _).trans (tlt c35).2.1) hr) ?_
      show oG p e below _ (T32.setTop (mkF m 193 #[sJ x0, sS, sI x1, sI x2, sI x3, sI nI_, sI ca_, sI cb_, sI cc_, sR b1, sR b5, sR b13, sR b22, sR rJ_, sR bJ_, sI tt_, sI d_, sU, sU, sU, sU, sU, sU, sU, sU] []))
      refine og (fun _ hr => XS.iconst X32.here hx rfl (hb hby at_193) (XS.goto X32.here hx rfl (pc0 := 194) (pc' := 198) rfl (hb hby at_194) (by decide) (by decide) (XS.istore X32.here hx rfl (hb hby at_198) rfl (l' := #[sJ x0, sS, sI x1, sI x2, sI x3, sI nI_, sI ca_, sI cb_, sI cc_, sR b1, sR b5, sR b13, sR b22, sR rJ_, sR bJ_, sI tt_, sI d_, sI 1, sU, sU, sU, sU, sU, sU, sU]) rfl (XS.iload X32.here hx rfl (hb hby at_200) rfl (XS.ifNo X32.here hx rfl (hb hby at_202) rfl ((if0 _ _).trans (feq (by decide)).1) (XS.iload X32.here hx rfl (hb hby at_205) rfl (XS.iconst X32.here hx rfl (hb hby at_207) (XS.isub X32.here hx rfl (hb hby at_208) rfl (XS.goto X32.here hx rfl (pc0 := 209) (pc' := 214) rfl (hb hby at_209) (by decide) (by decide) (XS.istore X32.here hx rfl (hb hby at_214) rfl (l' := #[sJ x0, sS, sI x1, sI x2, sI x3, sI nI_, sI ca_, sI cb_, sI cc_, sR b1, sR b5, sR b13, sR b22, sR rJ_, sR bJ_, sI tt_, sI d_, sI 1, sI (d_ - (1 : Int32)), sU, sU, sU, sU, sU, sU]) rfl hr)))))))))) ?_
      show oG p e below _ (T32.setTop (mkF m 216 #[sJ x0, sS, sI x1, sI x2, sI x3, sI nI_, sI ca_, sI cb_, sI cc_, sR b1, sR b5, sR b13, sR b22, sR rJ_, sR bJ_, sI tt_, sI d_, sI 1, sI (d_ - (1 : Int32)), sU, sU, sU, sU, sU, sU] []))
      generalize hndd_ : (d_ - (1 : Int32)) = nd_
      have hndN_ : Int32.ofNat (Jvm.Free.SBG.digitsL nN_) = nd_ := (own_m18 (by have q := hdN_; rw [hsg_] at q; exact q) (by omega)).trans hndd_
      have hnd1_ : ¬ (nd_ < (1 : Int32)) := (own_nd hndN_ hdg_.2.2.1 hdg_.2.2.2).1
      have hnd2_ : ¬ ((19 : Int32) < nd_) := (own_nd hndN_ hdg_.2.2.1 hdg_.2.2.2).2.1
      have hndt_ : nd_.toInt = (Jvm.Free.SBG.digitsL nN_) := (own_nd hndN_ hdg_.2.2.1 hdg_.2.2.2).2.2
      show oG p e below _ (T32.setTop (mkF m 216 #[sJ x0, sS, sI x1, sI x2, sI x3, sI nI_, sI ca_, sI cb_, sI cc_, sR b1, sR b5, sR b13, sR b22, sR rJ_, sR bJ_, sI tt_, sI d_, sI 1, sI nd_, sU, sU, sU, sU, sU, sU] []))
      refine og (fun _ hr => XS.iload X32.here hx rfl (hb hby at_216) rfl (XS.iconst X32.here hx rfl (hb hby at_218) hr)) ?_
      show oG p e below _ (T32.setTop (mkF m 219 #[sJ x0, sS, sI x1, sI x2, sI x3, sI nI_, sI ca_, sI cb_, sI cc_, sR b1, sR b5, sR b13, sR b22, sR rJ_, sR bJ_, sI tt_, sI d_, sI 1, sI nd_, sU, sU, sU, sU, sU, sU] [(.int 1), (.int nd_)]))
      refine og (fun _ hr => XS.icmpNo X32.here hx rfl (hb hby at_219) rfl (flt hnd1_).1 hr) ?_
      show oG p e below _ (T32.setTop (mkF m 222 #[sJ x0, sS, sI x1, sI x2, sI x3, sI nI_, sI ca_, sI cb_, sI cc_, sR b1, sR b5, sR b13, sR b22, sR rJ_, sR bJ_, sI tt_, sI d_, sI 1, sI nd_, sU, sU, sU, sU, sU, sU] []))
      refine og (fun _ hr => XS.iload X32.here hx rfl (hb hby at_222) rfl (XS.bipush X32.here hx rfl (hb hby at_224) hr)) ?_
      show oG p e below _ (T32.setTop (mkF m 226 #[sJ x0, sS, sI x1, sI x2, sI x3, sI nI_, sI ca_, sI cb_, sI cc_, sR b1, sR b5, sR b13, sR b22, sR rJ_, sR bJ_, sI tt_, sI d_, sI 1, sI nd_, sU, sU, sU, sU, sU, sU] [(.int 19), (.int nd_)]))
      refine og (fun _ hr => XS.icmpYes X32.here hx rfl (pc0 := 226) (pc' := 231) rfl (hb hby at_226) rfl (flt hnd2_).2.2.2 (by decide) (by decide) hr) ?_
      show oG p e below _ (T32.setTop (mkF m 231 #[sJ x0, sS, sI x1, sI x2, sI x3, sI nI_, sI ca_, sI cb_, sI cc_, sR b1, sR b5, sR b13, sR b22, sR rJ_, sR bJ_, sI tt_, sI d_, sI 1, sI nd_, sU, sU, sU, sU, sU, sU] []))
      refine og (fun _ hr => XS.aload X32.here hx rfl (hb hby at_231) rfl rfl (XS.iconst X32.here hx rfl (hb hby at_233) hr)) ?_
      show oG p e below _ (T32.setTop (mkF m 234 #[sJ x0, sS, sI x1, sI x2, sI x3, sI nI_, sI ca_, sI cb_, sI cc_, sR b1, sR b5, sR b13, sR b22, sR rJ_, sR bJ_, sI tt_, sI d_, sI 1, sI nd_, sU, sU, sU, sU, sU, sU] [(.int 0), (.ref bJ_)]))
      have f37 := (own_sta_keep S_SIOOBE_FORMATTER Km all0)
      refine own_chs X32 hx hZ hown hw (hw _ (own_m 182 rfl)) (hw _ (own_m 183 rfl)) (hw _ (own_m 185 rfl)) (hw _ (own_m 184 rfl)) (hw _ (own_m 2 rfl)) (own_msg nN_ x0 ds_) 0 fE_ fV_ fC_ fA_ (Or.inl ⟨rfl, rfl, rfl, fun c hc => (hmt_ c hc).2⟩) (own_up hmt_) f33 hs_COMPACT_STRINGS f37 hv_SIOOBE_FORMATTER (by rw [own_mlen]; omega) (by rw [own_mlen]; omega) rfl (by decide) (W := 0) (by decide) (by decide) (by decide) e32 (by rw [hml]; rfl) (Nat.le_of_eq rfl) (hb hby at_234) ?_
      intro T36 X36 e36
      show oG p e below _ (T36.setTop (mkF m 237 #[sJ x0, sS, sI x1, sI x2, sI x3, sI nI_, sI ca_, sI cb_, sI cc_, sR b1, sR b5, sR b13, sR b22, sR rJ_, sR bJ_, sI tt_, sI d_, sI 1, sI nd_, sU, sU, sU, sU, sU, sU] [(.int ((own_msg nN_ x0 ds_).getD 0 0))]))
      refine og (fun _ hr => XS.bipush X36.here hx rfl (hb hby at_237) hr) ?_
      show oG p e below _ (T36.setTop (mkF m 239 #[sJ x0, sS, sI x1, sI x2, sI x3, sI nI_, sI ca_, sI cb_, sI cc_, sR b1, sR b5, sR b13, sR b22, sR rJ_, sR bJ_, sI tt_, sI d_, sI 1, sI nd_, sU, sU, sU, sU, sU, sU] [(.int 108), (.int ((own_msg nN_ x0 ds_).getD 0 0))]))
      have hk38 : ((own_msg nN_ x0 ds_).getD 0 0) = (108 : Int32) := own_ms_l.1
      refine og (fun _ hr => XS.icmpNo X36.here hx rfl (hb hby at_239) rfl (teq hk38).2 hr) ?_
      show oG p e below _ (T36.setTop (mkF m 242 #[sJ x0, sS, sI x1, sI x2, sI x3, sI nI_, sI ca_, sI cb_, sI cc_, sR b1, sR b5, sR b13, sR b22, sR rJ_, sR bJ_, sI tt_, sI d_, sI 1, sI nd_, sU, sU, sU, sU, sU, sU] []))
      refine og (fun _ hr => XS.aload X36.here hx rfl (hb hby at_242) rfl rfl (XS.iconst X36.here hx rfl (hb hby at_244) hr)) ?_
      show oG p e below _ (T36.setTop (mkF m 245 #[sJ x0, sS, sI x1, sI x2, sI x3, sI nI_, sI ca_, sI cb_, sI cc_, sR b1, sR b5, sR b13, sR b22, sR rJ_, sR bJ_, sI tt_, sI d_, sI 1, sI nd_, sU, sU, sU, sU, sU, sU] [(.int 1), (.ref bJ_)]))
      refine own_chs X36 hx hZ hown hw (hw _ (own_m 182 rfl)) (hw _ (own_m 183 rfl)) (hw _ (own_m 185 rfl)) (hw _ (own_m 184 rfl)) (hw _ (own_m 2 rfl)) (own_msg nN_ x0 ds_) 1 fE_ fV_ fC_ fA_ (Or.inl ⟨rfl, rfl, rfl, fun c hc => (hmt_ c hc).2⟩) (own_up hmt_) f33 hs_COMPACT_STRINGS f37 hv_SIOOBE_FORMATTER (by rw [own_mlen]; omega) (by rw [own_mlen]; omega) rfl (by decide) (W := 0) (by decide) (by decide) (by decide) e36 (by rw [hml]; rfl) (Nat.le_of_eq rfl) (hb hby at_245) ?_
      intro T39 X39 e39
      show oG p e below _ (T39.setTop (mkF m 248 #[sJ x0, sS, sI x1, sI x2, sI x3, sI nI_, sI ca_, sI cb_, sI cc_, sR b1, sR b5, sR b13, sR b22, sR rJ_, sR bJ_, sI tt_, sI d_, sI 1, sI nd_, sU, sU, sU, sU, sU, sU] [(.int ((own_msg nN_ x0 ds_).getD 1 0))]))
      refine og (fun _ hr => XS.bipush X39.here hx rfl (hb hby at_248) hr) ?_
      show oG p e below _ (T39.setTop (mkF m 250 #[sJ x0, sS, sI x1, sI x2, sI x3, sI nI_, sI ca_, sI cb_, sI cc_, sR b1, sR b5, sR b13, sR b22, sR rJ_, sR bJ_, sI tt_, sI d_, sI 1, sI nd_, sU, sU, sU, sU, sU, sU] [(.int 105), (.int ((own_msg nN_ x0 ds_).getD 1 0))]))
      have hk40 : ((own_msg nN_ x0 ds_).getD 1 0) = (105 : Int32) := own_ms_l.2.1
      refine og (fun _ hr => XS.icmpNo X39.here hx rfl (hb hby at_250) rfl (teq hk40).2 hr) ?_
      show oG p e below _ (T39.setTop (mkF m 253 #[sJ x0, sS, sI x1, sI x2, sI x3, sI nI_, sI ca_, sI cb_, sI cc_, sR b1, sR b5, sR b13, sR b22, sR rJ_, sR bJ_, sI tt_, sI d_, sI 1, sI nd_, sU, sU, sU, sU, sU, sU] []))
      refine og (fun _ hr => XS.aload X39.here hx rfl (hb hby at_253) rfl rfl (XS.iconst X39.here hx rfl (hb hby at_255) hr)) ?_
      show oG p e below _ (T39.setTop (mkF m 256 #[sJ x0, sS, sI x1, sI x2, sI x3, sI nI_, sI ca_, sI cb_, sI cc_, sR b1, sR b5, sR b13, sR b22, sR rJ_, sR bJ_, sI tt_, sI d_, sI 1, sI nd_, sU, sU, sU, sU, sU, sU] [(.int 2), (.ref bJ_)]))
      refine own_chs X39 hx hZ hown hw (hw _ (own_m 182 rfl)) (hw _ (own_m 183 rfl)) (hw _ (own_m 185 rfl)) (hw _ (own_m 184 rfl)) (hw _ (own_m 2 rfl)) (own_msg nN_ x0 ds_) 2 fE_ fV_ fC_ fA_ (Or.inl ⟨rfl, rfl, rfl, fun c hc => (hmt_ c hc).2⟩) (own_up hmt_) f33 hs_COMPACT_STRINGS f37 hv_SIOOBE_FORMATTER (by rw [own_mlen]; omega) (by rw [own_mlen]; omega) rfl (by decide) (W := 0) (by decide) (by decide) (by decide) e39 (by rw [hml]; rfl) (Nat.le_of_eq rfl) (hb hby at_256) ?_
      intro T41 X41 e41
      show oG p e below _ (T41.setTop (mkF m 259 #[sJ x0, sS, sI x1, sI x2, sI x3, sI nI_, sI ca_, sI cb_, sI cc_, sR b1, sR b5, sR b13, sR b22, sR rJ_, sR bJ_, sI tt_, sI d_, sI 1, sI nd_, sU, sU, sU, sU, sU, sU] [(.int ((own_msg nN_ x0 ds_).getD 2 0))]))
      refine og (fun _ hr => XS.bipush X41.here hx rfl (hb hby at_259) hr) ?_
      show oG p e below _ (T41.setTop (mkF m 261 #[sJ x0, sS, sI x1, sI x2, sI x3, sI nI_, sI ca_, sI cb_, sI cc_, sR b1, sR b5, sR b13, sR b22, sR rJ_, sR bJ_, sI tt_, sI d_, sI 1, sI nd_, sU, sU, sU, sU, sU, sU] [(.int 110), (.int ((own_msg nN_ x0 ds_).getD 2 0))]))
      have hk42 : ((own_msg nN_ x0 ds_).getD 2 0) = (110 : Int32) := own_ms_l.2.2.1
      refine og (fun _ hr => XS.icmpNo X41.here hx rfl (hb hby at_261) rfl (teq hk42).2 hr) ?_
      show oG p e below _ (T41.setTop (mkF m 264 #[sJ x0, sS, sI x1, sI x2, sI x3, sI nI_, sI ca_, sI cb_, sI cc_, sR b1, sR b5, sR b13, sR b22, sR rJ_, sR bJ_, sI tt_, sI d_, sI 1, sI nd_, sU, sU, sU, sU, sU, sU] []))
      refine og (fun _ hr => XS.aload X41.here hx rfl (hb hby at_264) rfl rfl (XS.iconst X41.here hx rfl (hb hby at_266) hr)) ?_
      show oG p e below _ (T41.setTop (mkF m 267 #[sJ x0, sS, sI x1, sI x2, sI x3, sI nI_, sI ca_, sI cb_, sI cc_, sR b1, sR b5, sR b13, sR b22, sR rJ_, sR bJ_, sI tt_, sI d_, sI 1, sI nd_, sU, sU, sU, sU, sU, sU] [(.int 3), (.ref bJ_)]))
      refine own_chs X41 hx hZ hown hw (hw _ (own_m 182 rfl)) (hw _ (own_m 183 rfl)) (hw _ (own_m 185 rfl)) (hw _ (own_m 184 rfl)) (hw _ (own_m 2 rfl)) (own_msg nN_ x0 ds_) 3 fE_ fV_ fC_ fA_ (Or.inl ⟨rfl, rfl, rfl, fun c hc => (hmt_ c hc).2⟩) (own_up hmt_) f33 hs_COMPACT_STRINGS f37 hv_SIOOBE_FORMATTER (by rw [own_mlen]; omega) (by rw [own_mlen]; omega) rfl (by decide) (W := 0) (by decide) (by decide) (by decide) e41 (by rw [hml]; rfl) (Nat.le_of_eq rfl) (hb hby at_267) ?_
      intro T43 X43 e43
      show oG p e below _ (T43.setTop (mkF m 270 #[sJ x0, sS, sI x1, sI x2, sI x3, sI nI_, sI ca_, sI cb_, sI cc_, sR b1, sR b5, sR b13, sR b22, sR rJ_, sR bJ_, sI tt_, sI d_, sI 1, sI nd_, sU, sU, sU, sU, sU, sU] [(.int ((own_msg nN_ x0 ds_).getD 3 0))]))
      refine og (fun _ hr => XS.bipush X43.here hx rfl (hb hby at_270) hr) ?_
      show oG p e below _ (T43.setTop (mkF m 272 #[sJ x0, sS, sI x1, sI x2, sI x3, sI nI_, sI ca_, sI cb_, sI cc_, sR b1, sR b5, sR b13, sR b22, sR rJ_, sR bJ_, sI tt_, sI d_, sI 1, sI nd_, sU, sU, sU, sU, sU, sU] [(.int 101), (.int ((own_msg nN_ x0 ds_).getD 3 0))]))
      have hk44 : ((own_msg nN_ x0 ds_).getD 3 0) = (101 : Int32) := own_ms_l.2.2.2.1
      refine og (fun _ hr => XS.icmpNo X43.here hx rfl (hb hby at_272) rfl (teq hk44).2 hr) ?_
      show oG p e below _ (T43.setTop (mkF m 275 #[sJ x0, sS, sI x1, sI x2, sI x3, sI nI_, sI ca_, sI cb_, sI cc_, sR b1, sR b5, sR b13, sR b22, sR rJ_, sR bJ_, sI tt_, sI d_, sI 1, sI nd_, sU, sU, sU, sU, sU, sU] []))
      refine og (fun _ hr => XS.aload X43.here hx rfl (hb hby at_275) rfl rfl (XS.iconst X43.here hx rfl (hb hby at_277) hr)) ?_
      show oG p e below _ (T43.setTop (mkF m 278 #[sJ x0, sS, sI x1, sI x2, sI x3, sI nI_, sI ca_, sI cb_, sI cc_, sR b1, sR b5, sR b13, sR b22, sR rJ_, sR bJ_, sI tt_, sI d_, sI 1, sI nd_, sU, sU, sU, sU, sU, sU] [(.int 4), (.ref bJ_)]))
      refine own_chs X43 hx hZ hown hw (hw _ (own_m 182 rfl)) (hw _ (own_m 183 rfl)) (hw _ (own_m 185 rfl)) (hw _ (own_m 184 rfl)) (hw _ (own_m 2 rfl)) (own_msg nN_ x0 ds_) 4 fE_ fV_ fC_ fA_ (Or.inl ⟨rfl, rfl, rfl, fun c hc => (hmt_ c hc).2⟩) (own_up hmt_) f33 hs_COMPACT_STRINGS f37 hv_SIOOBE_FORMATTER (by rw [own_mlen]; omega) (by rw [own_mlen]; omega) rfl (by decide) (W := 0) (by decide) (by decide) (by decide) e43 (by rw [hml]; rfl) (Nat.le_of_eq rfl) (hb hby at_278) ?_
      intro T45 X45 e45
      show oG p e below _ (T45.setTop (mkF m 281 #[sJ x0, sS, sI x1, sI x2, sI x3, sI nI_, sI ca_, sI cb_, sI cc_, sR b1, sR b5, sR b13, sR b22, sR rJ_, sR bJ_, sI tt_, sI d_, sI 1, sI nd_, sU, sU, sU, sU, sU, sU] [(.int ((own_msg nN_ x0 ds_).getD 4 0))]))
      refine og (fun _ hr => XS.bipush X45.here hx rfl (hb hby at_281) hr) ?_
      show oG p e below _ (T45.setTop (mkF m 283 #[sJ x0, sS, sI x1, sI x2, sI x3, sI nI_, sI ca_, sI cb_, sI cc_, sR b1, sR b5, sR b13, sR b22, sR rJ_, sR bJ_, sI tt_, sI d_, sI 1, sI nd_, sU, sU, sU, sU, sU, sU] [(.int 32), (.int ((own_msg nN_ x0 ds_).getD 4 0))]))
      have hk46 : ((own_msg nN_ x0 ds_).getD 4 0) = (32 : Int32) := own_ms_l.2.2.2.2
      refine og (fun _ hr => XS.icmpYes X45.here hx rfl (pc0 := 283) (pc' := 288) rfl (hb hby at_283) rfl (teq hk46).1 (by decide) (by decide) hr) ?_
      show oG p e below _ (T45.setTop (mkF m 288 #[sJ x0, sS, sI x1, sI x2, sI x3, sI nI_, sI ca_, sI cb_, sI cc_, sR b1, sR b5, sR b13, sR b22, sR rJ_, sR bJ_, sI tt_, sI d_, sI 1, sI nd_, sU, sU, sU, sU, sU, sU] []))
      refine og (fun _ hr => XS.iload X45.here hx rfl (hb hby at_288) rfl (XS.ifNo X45.here hx rfl (hb hby at_290) rfl ((if0 _ _).trans (feq (by decide)).1) (XS.aload X45.here hx rfl (hb hby at_293) rfl rfl (XS.iconst X45.here hx rfl (hb hby at_295) hr)))) ?_
      show oG p e below _ (T45.setTop (mkF m 296 #[sJ x0, sS, sI x1, sI x2, sI x3, sI nI_, sI ca_, sI cb_, sI cc_, sR b1, sR b5, sR b13, sR b22, sR rJ_, sR bJ_, sI tt_, sI d_, sI 1, sI nd_, sU, sU, sU, sU, sU, sU] [(.int 5), (.ref bJ_)]))
      refine own_chs X45 hx hZ hown hw (hw _ (own_m 182 rfl)) (hw _ (own_m 183 rfl)) (hw _ (own_m 185 rfl)) (hw _ (own_m 184 rfl)) (hw _ (own_m 2 rfl)) (own_msg nN_ x0 ds_) 5 fE_ fV_ fC_ fA_ (Or.inl ⟨rfl, rfl, rfl, fun c hc => (hmt_ c hc).2⟩) (own_up hmt_) f33 hs_COMPACT_STRINGS f37 hv_SIOOBE_FORMATTER (by rw [own_mlen]; omega) (by rw [own_mlen]; omega) rfl (by decide) (W := 0) (by decide) (by decide) (by decide) e45 (by rw [hml]; rfl) (Nat.le_of_eq rfl) (hb hby at_296) ?_
      intro T47 X47 e47
      show oG p e below _ (T47.setTop (mkF m 299 #[sJ x0, sS, sI x1, sI x2, sI x3, sI nI_, sI ca_, sI cb_, sI cc_, sR b1, sR b5, sR b13, sR b22, sR rJ_, sR bJ_, sI tt_, sI d_, sI 1, sI nd_, sU, sU, sU, sU, sU, sU] [(.int ((own_msg nN_ x0 ds_).getD 5 0))]))
      refine og (fun _ hr => XS.bipush X47.here hx rfl (hb hby at_299) hr) ?_
      show oG p e below _ (T47.setTop (mkF m 301 #[sJ x0, sS, sI x1, sI x2, sI x3, sI nI_, sI ca_, sI cb_, sI cc_, sR b1, sR b5, sR b13, sR b22, sR rJ_, sR bJ_, sI tt_, sI d_, sI 1, sI nd_, sU, sU, sU, sU, sU, sU] [(.int 45), (.int ((own_msg nN_ x0 ds_).getD 5 0))]))
      have hk48 : ((own_msg nN_ x0 ds_).getD 5 0) = (45 : Int32) := own_ms_n c34
      refine og (fun _ hr => XS.icmpYes X47.here hx rfl (pc0 := 301) (pc' := 306) rfl (hb hby at_301) rfl (teq hk48).1 (by decide) (by decide) hr) ?_
      show oG p e below _ (T47.setTop (mkF m 306 #[sJ x0, sS, sI x1, sI x2, sI x3, sI nI_, sI ca_, sI cb_, sI cc_, sR b1, sR b5, sR b13, sR b22, sR rJ_, sR bJ_, sI tt_, sI d_, sI 1, sI nd_, sU, sU, sU, sU, sU, sU] []))
      have jH_ : ∀ (Tj : State) (Lj : List Loc) (hj : Heap), Stand p l e room_1 (s.setVm Tm.vm) m #[(.long x0), (.int x1), (.int x2), (.int x3)] below meth c Tj Lj 21 192 → Fr n0 Lj → Tj.heap = hj → Keep hm hj [] → oG p e below (own_KW Z own_EL s (Q_law Z h0 n0) room_1.cells room_1.slots) (Tj.setTop (mkF m 391 #[sJ x0, sS, sI x1, sI x2, sI x3, sI nI_, sI ca_, sI cb_, sI cc_, sR b1, sR b5, sR b13, sR b22, sR rJ_, sR bJ_, sI tt_, sI d_, sI 1, sI nd_, sU, sU, sU, sU, sU, sU] [])) := by
        intro Tj Lj hj Xj Nj ej Kj
        show oG p e below _ (Tj.setTop (mkF m 391 #[sJ x0, sS, sI x1, sI x2, sI x3, sI nI_, sI ca_, sI cb_, sI cc_, sR b1, sR b5, sR b13, sR b22, sR rJ_, sR bJ_, sI tt_, sI d_, sI 1, sI nd_, sU, sU, sU, sU, sU, sU] []))
        refine og (fun _ hr => XS.iload Xj.here hx rfl (hb hby at_391) rfl (XS.ifNo Xj.here hx rfl (hb hby at_393) rfl ((if0 _ _).trans (feq (by decide)).1) (XS.bipush Xj.here hx rfl (hb hby at_396) (XS.goto Xj.here hx rfl (pc0 := 398) (pc' := 402) rfl (hb hby at_398) (by decide) (by decide) (XS.istore Xj.here hx rfl (hb hby at_402) rfl (l' := #[sJ x0, sS, sI x1, sI x2, sI x3, sI nI_, sI ca_, sI cb_, sI cc_, sR b1, sR b5, sR b13, sR b22, sR rJ_, sR bJ_, sI tt_, sI d_, sI 1, sI nd_, sI 6, sU, sU, sU, sU, sU]) rfl hr))))) ?_
        show oG p e below _ (Tj.setTop (mkF m 404 #[sJ x0, sS, sI x1, sI x2, sI x3, sI nI_, sI ca_, sI cb_, sI cc_, sR b1, sR b5, sR b13, sR b22, sR rJ_, sR bJ_, sI tt_, sI d_, sI 1, sI nd_, sI 6, sU, sU, sU, sU, sU] []))
        have hmk_ := own_msk x3
        refine og (fun _ hr => XS.iload Xj.here hx rfl (hb hby at_404) rfl hr) ?_
        show oG p e below _ (Tj.setTop (mkF m 406 #[sJ x0, sS, sI x1, sI x2, sI x3, sI nI_, sI ca_, sI cb_, sI cc_, sR b1, sR b5, sR b13, sR b22, sR rJ_, sR bJ_, sI tt_, sI d_, sI 1, sI nd_, sI 6, sU, sU, sU, sU, sU] [(.int x3)]))
        refine og (Xj.ldcInt hx hown (mvT hZ (hw _ (own_m 227 rfl))) rfl (hb hby at_406)) ?_
        show oG p e below _ (Tj.setTop (mkF m 408 #[sJ x0, sS, sI x1, sI x2, sI x3, sI nI_, sI ca_, sI cb_, sI cc_, sR b1, sR b5, sR b13, sR b22, sR rJ_, sR bJ_, sI tt_, sI d_, sI 1, sI nd_, sI 6, sU, sU, sU, sU, sU] [(.int 2147483647), (.int x3)]))
        refine og (fun _ hr => XS.iand Xj.here hx rfl (hb hby at_408) rfl (XS.iload Xj.here hx rfl (hb hby at_409) rfl hr)) ?_
        show oG p e below _ (Tj.setTop (mkF m 411 #[sJ x0, sS, sI x1, sI x2, sI x3, sI nI_, sI ca_, sI cb_, sI cc_, sR b1, sR b5, sR b13, sR b22, sR rJ_, sR bJ_, sI tt_, sI d_, sI 1, sI nd_, sI 6, sU, sU, sU, sU, sU] [(.int nd_), (.int (x3 &&& (2147483647 : Int32)))]))
        have nz49 : nd_ ≠ (0 : Int32) := by exact (own_jr hmk_ hnd1_).2.2
        refine og (fun _ hr => iremM Xj hx rfl (hb hby at_411) rfl nz49 hr) ?_
        show oG p e below _ (Tj.setTop (mkF m 412 #[sJ x0, sS, sI x1, sI x2, sI x3, sI nI_, sI ca_, sI cb_, sI cc_, sR b1, sR b5, sR b13, sR b22, sR rJ_, sR bJ_, sI tt_, sI d_, sI 1, sI nd_, sI 6, sU, sU, sU, sU, sU] [(.int ((x3 &&& (2147483647 : Int32)) % nd_))]))
        refine og (fun _ hr => XS.istore Xj.here hx rfl (hb hby at_412) rfl (l' := #[sJ x0, sS, sI x1, sI x2, sI x3, sI nI_, sI ca_, sI cb_, sI cc_, sR b1, sR b5, sR b13, sR b22, sR rJ_, sR bJ_, sI tt_, sI d_, sI 1, sI nd_, sI 6, sI ((x3 &&& (2147483647 : Int32)) % nd_), sU, sU, sU, sU]) rfl hr) ?_
        show oG p e below _ (Tj.setTop (mkF m 414 #[sJ x0, sS, sI x1, sI x2, sI x3, sI nI_, sI ca_, sI cb_, sI cc_, sR b1, sR b5, sR b13, sR b22, sR rJ_, sR bJ_, sI tt_, sI d_, sI 1, sI nd_, sI 6, sI ((x3 &&& (2147483647 : Int32)) % nd_), sU, sU, sU, sU] []))
        generalize hjd_ : ((x3 &&& (2147483647 : Int32)) % nd_) = j_
        have hjr_ := own_jr hmk_ hnd1_
        rw [hjd_] at hjr_
        have hjN_ := own_jN hjr_.1 hjr_.2.1 hndN_ hdg_.2.2.2
        show oG p e below _ (Tj.setTop (mkF m 414 #[sJ x0, sS, sI x1, sI x2, sI x3, sI nI_, sI ca_, sI cb_, sI cc_, sR b1, sR b5, sR b13, sR b22, sR rJ_, sR bJ_, sI tt_, sI d_, sI 1, sI nd_, sI 6, sI j_, sU, sU, sU, sU] []))
        refine og (fun _ hr => XS.lloadN Xj.here hx rfl (hb hby at_414) rfl (XS.iload Xj.here hx rfl (hb hby at_415) rfl (XS.iconst Xj.here hx rfl (hb hby at_417) (XS.isub Xj.here hx rfl (hb hby at_418) rfl (XS.iload Xj.here hx rfl (hb hby at_419) rfl (XS.isub Xj.here hx rfl (hb hby at_421) rfl hr)))))) ?_
        show oG p e below _ (Tj.setTop (mkF m 422 #[sJ x0, sS, sI x1, sI x2, sI x3, sI nI_, sI ca_, sI cb_, sI cc_, sR b1, sR b5, sR b13, sR b22, sR rJ_, sR bJ_, sI tt_, sI d_, sI 1, sI nd_, sI 6, sI j_, sU, sU, sU, sU] [(.int ((nd_ - (1 : Int32)) - j_)), (.long x0)]))
        have hpk_ : ((Jvm.Free.SBG.digitsL nN_) - 1 - j_.toNatClampNeg) < 19 := by omega
        have Z51 := (Nat.le_trans (Nat.le_trans Z0 Km.1) Kj.1)
        refine own_cs Xj hx hZ hown (hw _ (own_m 204 rfl)) (hw _ (own_m 205 rfl)) (hw _ (own_m 206 rfl)) (hw _ (own_m 207 rfl)) (by decide) (rm := { frames := 0, cells := 1, slots := 19, locals := 0 }) (rm_pow l Z a0 hw [] ((nd_ - (1 : Int32)) - j_) ((Jvm.Free.SBG.digitsL nN_) - 1 - j_.toNatClampNeg) hj n0 Z51 (own_m20 hndN_ hjN_.1 hjN_.2 (by omega)) hpk_) (by decide) (W := 2) (by decide) (by decide) (by decide) ej (by rw [hml]; rfl) (argsL := [(.int ((nd_ - (1 : Int32)) - j_))]) (lenOf own_pd26 rfl) (rest := [(.long x0)]) rfl rfl (Nat.le_of_eq rfl) (hb hby at_422) ?_
        intro _ T50 L50 X50 hQ50
        obtain ⟨rfl, N50q, K50⟩ := hQ50
        have N50 := Fr.app Nj N50q
        show oG p e below _ (T50.setTop (mkF m 425 #[sJ x0, sS, sI x1, sI x2, sI x3, sI nI_, sI ca_, sI cb_, sI cc_, sR b1, sR b5, sR b13, sR b22, sR rJ_, sR bJ_, sI tt_, sI d_, sI 1, sI nd_, sI 6, sI j_, sU, sU, sU, sU] [(.long (own_pw ((Jvm.Free.SBG.digitsL nN_) - 1 - j_.toNatClampNeg))), (.long x0)]))
        have nz52 : (own_pw ((Jvm.Free.SBG.digitsL nN_) - 1 - j_.toNatClampNeg)) ≠ (0 : Int64) := by exact own_pwz _ hpk_
        refine og (fun _ hr => XS.ldiv X50.here hx rfl (hb hby at_425) rfl nz52 hr) ?_
        show oG p e below _ (T50.setTop (mkF m 426 #[sJ x0, sS, sI x1, sI x2, sI x3, sI nI_, sI ca_, sI cb_, sI cc_, sR b1, sR b5, sR b13, sR b22, sR rJ_, sR bJ_, sI tt_, sI d_, sI 1, sI nd_, sI 6, sI j_, sU, sU, sU, sU] [(.long (x0 / (own_pw ((Jvm.Free.SBG.digitsL nN_) - 1 - j_.toNatClampNeg))))]))
        refine og (X50.ldc2Long hx hown (mvT hZ (hw _ (own_m 209 rfl))) rfl (hb hby at_426)) ?_
        show oG p e below _ (T50.setTop (mkF m 429 #[sJ x0, sS, sI x1, sI x2, sI x3, sI nI_, sI ca_, sI cb_, sI cc_, sR b1, sR b5, sR b13, sR b22, sR rJ_, sR bJ_, sI tt_, sI d_, sI 1, sI nd_, sI 6, sI j_, sU, sU, sU, sU] [(.long (10 : Int64)), (.long (x0 / (own_pw ((Jvm.Free.SBG.digitsL nN_) - 1 - j_.toNatClampNeg))))]))
        have nz53 : (10 : Int64) ≠ (0 : Int64) := by decide
        refine og (fun _ hr => XS.lrem X50.here hx rfl (hb hby at_429) rfl nz53 hr) ?_
        show oG p e below _ (T50.setTop (mkF m 430 #[sJ x0, sS, sI x1, sI x2, sI x3, sI nI_, sI ca_, sI cb_, sI cc_, sR b1, sR b5, sR b13, sR b22, sR rJ_, sR bJ_, sI tt_, sI d_, sI 1, sI nd_, sI 6, sI j_, sU, sU, sU, sU] [(.long ((x0 / (own_pw ((Jvm.Free.SBG.digitsL nN_) - 1 - j_.toNatClampNeg))) - ((x0 / (own_pw ((Jvm.Free.SBG.digitsL nN_) - 1 - j_.toNatClampNeg))) / (10 : Int64)) * (10 : Int64)))]))
        refine og (fun _ hr => XS.lstore X50.here hx rfl (hb hby at_430) rfl (l' := #[sJ x0, sS, sI x1, sI x2, sI x3, sI nI_, sI ca_, sI cb_, sI cc_, sR b1, sR b5, sR b13, sR b22, sR rJ_, sR bJ_, sI tt_, sI d_, sI 1, sI nd_, sI 6, sI j_, .val (.long ((x0 / (own_pw ((Jvm.Free.SBG.digitsL nN_) - 1 - j_.toNatClampNeg))) - ((x0 / (own_pw ((Jvm.Free.SBG.digitsL nN_) - 1 - j_.toNatClampNeg))) / (10 : Int64)) * (10 : Int64))), sS, sU, sU]) rfl hr) ?_
        show oG p e below _ (T50.setTop (mkF m 432 #[sJ x0, sS, sI x1, sI x2, sI x3, sI nI_, sI ca_, sI cb_, sI cc_, sR b1, sR b5, sR b13, sR b22, sR rJ_, sR bJ_, sI tt_, sI d_, sI 1, sI nd_, sI 6, sI j_, .val (.long ((x0 / (own_pw ((Jvm.Free.SBG.digitsL nN_) - 1 - j_.toNatClampNeg))) - ((x0 / (own_pw ((Jvm.Free.SBG.digitsL nN_) - 1 - j_.toNatClampNeg))) / (10 : Int64)) * (10 : Int64))), sS, sU, sU] []))
        generalize hqv_ : ((x0 / (own_pw ((Jvm.Free.SBG.digitsL nN_) - 1 - j_.toNatClampNeg))) - ((x0 / (own_pw ((Jvm.Free.SBG.digitsL nN_) - 1 - j_.toNatClampNeg))) / (10 : Int64)) * (10 : Int64)) = qv_
        show oG p e below _ (T50.setTop (mkF m 432 #[sJ x0, sS, sI x1, sI x2, sI x3, sI nI_, sI ca_, sI cb_, sI cc_, sR b1, sR b5, sR b13, sR b22, sR rJ_, sR bJ_, sI tt_, sI d_, sI 1, sI nd_, sI 6, sI j_, sJ qv_, sS, sU, sU] []))
        refine og (fun _ hr => XS.iload X50.here hx rfl (hb hby at_432) rfl (XS.ifNo X50.here hx rfl (hb hby at_434) rfl ((if0 _ _).trans (feq (by decide)).1) (XS.lload X50.here hx rfl (hb hby at_437) rfl (XS.lneg X50.here hx rfl (hb hby at_439) rfl (XS.goto X50.here hx rfl (pc0 := 440) (pc' := 445) rfl (hb hby at_440) (by decide) (by decide) (XS.lstore X50.here hx rfl (hb hby at_445) rfl (l' := #[sJ x0, sS, sI x1, sI x2, sI x3, sI nI_, sI ca_, sI cb_, sI cc_, sR b1, sR b5, sR b13, sR b22, sR rJ_, sR bJ_, sI tt_, sI d_, sI 1, sI nd_, sI 6, sI j_, sJ qv_, sS, sJ (-qv_), sS]) rfl (XS.aload X50.here hx rfl (hb hby at_447) rfl rfl (XS.iload X50.here hx rfl (hb hby at_449) rfl (XS.iload X50.here hx rfl (hb hby at_451) rfl (XS.iadd X50.here hx rfl (hb hby at_453) rfl hr)))))))))) ?_
        show oG p e below _ (T50.setTop (mkF m 454 #[sJ x0, sS, sI x1, sI x2, sI x3, sI nI_, sI ca_, sI cb_, sI cc_, sR b1, sR b5, sR b13, sR b22, sR rJ_, sR bJ_, sI tt_, sI d_, sI 1, sI nd_, sI 6, sI j_, sJ qv_, sS, sJ (-qv_), sS] [(.int ((6 : Int32) + j_)), (.ref bJ_)]))
        have f55 := ((fE_.keep Kj).keep K50)
        have f56 := ((fV_.keep Kj nin0).keep K50 nin0)
        have f57 := ((fC_.keep Kj nin0).keep K50 nin0)
        have f58 := ((fA_.keep Kj nin0).keep K50 nin0)
        have f59 := (own_sta_keep (own_sta_keep f33 Kj all0) K50 all0)
        have f60 := (own_sta_keep (own_sta_keep f37 Kj all0) K50 all0)
        refine own_chs X50 hx hZ hown hw (hw _ (own_m 182 rfl)) (hw _ (own_m 183 rfl)) (hw _ (own_m 185 rfl)) (hw _ (own_m 184 rfl)) (hw _ (own_m 2 rfl)) (own_msg nN_ x0 ds_) (5 + (1 + j_.toNatClampNeg)) f55 f56 f57 f58 (Or.inl ⟨rfl, rfl, rfl, fun c hc => (hmt_ c hc).2⟩) (own_up hmt_) f59 hs_COMPACT_STRINGS f60 hv_SIOOBE_FORMATTER (by rw [own_mlen]; omega) (by rw [own_mlen]; omega) (by rw [show 5 + (1 + j_.toNatClampNeg) = 6 + j_.toNatClampNeg from by omega]; exact (own_add (a := 6) rfl hjN_.1).symm) (by decide) (W := 0) (by decide) (by decide) (by decide) rfl (by rw [hml]; rfl) (Nat.le_of_eq rfl) (hb hby at_454) ?_
        intro T54 X54 e54
        show oG p e below _ (T54.setTop (mkF m 457 #[sJ x0, sS, sI x1, sI x2, sI x3, sI nI_, sI ca_, sI cb_, sI cc_, sR b1, sR b5, sR b13, sR b22, sR rJ_, sR bJ_, sI tt_, sI d_, sI 1, sI nd_, sI 6, sI j_, sJ qv_, sS, sJ (-qv_), sS] [(.int ((own_msg nN_ x0 ds_).getD (5 + (1 + j_.toNatClampNeg)) 0))]))
        refine og (fun _ hr => XS.bipush X54.here hx rfl (hb hby at_457) (XS.lload X54.here hx rfl (hb hby at_459) rfl (XS.l2i X54.here hx rfl (hb hby at_461) rfl (XS.iadd X54.here hx rfl (hb hby at_462) rfl (XS.i2c X54.here hx rfl (hb hby at_463) rfl hr))))) ?_
        show oG p e below _ (T54.setTop (mkF m 464 #[sJ x0, sS, sI x1, sI x2, sI x3, sI nI_, sI ca_, sI cb_, sI cc_, sR b1, sR b5, sR b13, sR b22, sR rJ_, sR bJ_, sI tt_, sI d_, sI 1, sI nd_, sI 6, sI j_, sJ qv_, sS, sJ (-qv_), sS] [(.int (((48 : Int32) + ((-qv_).toInt32)).toUInt32.toUInt16.toUInt32.toInt32)), (.int ((own_msg nN_ x0 ds_).getD (5 + (1 + j_.toNatClampNeg)) 0))]))
        have hk61 : ((own_msg nN_ x0 ds_).getD (5 + (1 + j_.toNatClampNeg)) 0) = (((48 : Int32) + ((-qv_).toInt32)).toUInt32.toUInt16.toUInt32.toInt32) := by subst hqv_; exact (own_ms_d (by omega)).trans ((show (own_dec nN_ x0).getD (1 + j_.toNatClampNeg) 0 = _ from (by have q := own_dec_at (x := x0) hjN_.2; rw [hsg_] at q; exact q)).trans (own_dgN hxp_ hn63_ (own_pw_v _ (by omega)) (Nat.pow_pos (by decide))).symm)
        refine og (fun _ hr => XS.icmpYes X54.here hx rfl (pc0 := 464) (pc' := 469) rfl (hb hby at_464) rfl (teq hk61).1 (by decide) (by decide) hr) ?_
        show oG p e below _ (T54.setTop (mkF m 469 #[sJ x0, sS, sI x1, sI x2, sI x3, sI nI_, sI ca_, sI cb_, sI cc_, sR b1, sR b5, sR b13, sR b22, sR rJ_, sR bJ_, sI tt_, sI d_, sI 1, sI nd_, sI 6, sI j_, sJ qv_, sS, sJ (-qv_), sS] []))
        refine og (fun _ hr => XS.aload X54.here hx rfl (hb hby at_469) rfl rfl (XS.iconst X54.here hx rfl (hb hby at_471) (XS.iload X54.here hx rfl (hb hby at_472) rfl (XS.iadd X54.here hx rfl (hb hby at_474) rfl hr)))) ?_
        show oG p e below _ (T54.setTop (mkF m 475 #[sJ x0, sS, sI x1, sI x2, sI x3, sI nI_, sI ca_, sI cb_, sI cc_, sR b1, sR b5, sR b13, sR b22, sR rJ_, sR bJ_, sI tt_, sI d_, sI 1, sI nd_, sI 6, sI j_, sJ qv_, sS, sJ (-qv_), sS] [(.int ((5 : Int32) + d_)), (.ref bJ_)]))
        refine own_chs X54 hx hZ hown hw (hw _ (own_m 182 rfl)) (hw _ (own_m 183 rfl)) (hw _ (own_m 185 rfl)) (hw _ (own_m 184 rfl)) (hw _ (own_m 2 rfl)) (own_msg nN_ x0 ds_) (5 + (Jvm.Free.SBG.digitsL nN_ + Jvm.Free.SBG.GetCharsL.sgnL x0) + 0) f55 f56 f57 f58 (Or.inl ⟨rfl, rfl, rfl, fun c hc => (hmt_ c hc).2⟩) (own_up hmt_) f59 hs_COMPACT_STRINGS f60 hv_SIOOBE_FORMATTER (by rw [own_mlen]; omega) (by rw [own_mlen]; omega) (by rw [show 5 + (Jvm.Free.SBG.digitsL nN_ + Jvm.Free.SBG.GetCharsL.sgnL x0) + 0 = 5 + (Jvm.Free.SBG.digitsL nN_ + Jvm.Free.SBG.GetCharsL.sgnL x0) from by omega]; exact (own_add (a := 5) rfl hdN_).symm) (by decide) (W := 0) (by decide) (by decide) (by decide) e54 (by rw [hml]; rfl) (Nat.le_of_eq rfl) (hb hby at_475) ?_
        intro T62 X62 e62
        show oG p e below _ (T62.setTop (mkF m 478 #[sJ x0, sS, sI x1, sI x2, sI x3, sI nI_, sI ca_, sI cb_, sI cc_, sR b1, sR b5, sR b13, sR b22, sR rJ_, sR bJ_, sI tt_, sI d_, sI 1, sI nd_, sI 6, sI j_, sJ qv_, sS, sJ (-qv_), sS] [(.int ((own_msg nN_ x0 ds_).getD (5 + (Jvm.Free.SBG.digitsL nN_ + Jvm.Free.SBG.GetCharsL.sgnL x0) + 0) 0))]))
        refine og (fun _ hr => XS.bipush X62.here hx rfl (hb hby at_478) hr) ?_
        show oG p e below _ (T62.setTop (mkF m 480 #[sJ x0, sS, sI x1, sI x2, sI x3, sI nI_, sI ca_, sI cb_, sI cc_, sR b1, sR b5, sR b13, sR b22, sR rJ_, sR bJ_, sI tt_, sI d_, sI 1, sI nd_, sI 6, sI j_, sJ qv_, sS, sJ (-qv_), sS] [(.int 58), (.int ((own_msg nN_ x0 ds_).getD (5 + (Jvm.Free.SBG.digitsL nN_ + Jvm.Free.SBG.GetCharsL.sgnL x0) + 0) 0))]))
        have hk63 : ((own_msg nN_ x0 ds_).getD (5 + (Jvm.Free.SBG.digitsL nN_ + Jvm.Free.SBG.GetCharsL.sgnL x0) + 0) 0) = (58 : Int32) := own_ms_t (by decide)
        refine og (fun _ hr => XS.icmpNo X62.here hx rfl (hb hby at_480) rfl (teq hk63).2 hr) ?_
        show oG p e below _ (T62.setTop (mkF m 483 #[sJ x0, sS, sI x1, sI x2, sI x3, sI nI_, sI ca_, sI cb_, sI cc_, sR b1, sR b5, sR b13, sR b22, sR rJ_, sR bJ_, sI tt_, sI d_, sI 1, sI nd_, sI 6, sI j_, sJ qv_, sS, sJ (-qv_), sS] []))
        refine og (fun _ hr => XS.aload X62.here hx rfl (hb hby at_483) rfl rfl (XS.bipush X62.here hx rfl (hb hby at_485) (XS.iload X62.here hx rfl (hb hby at_487) rfl (XS.iadd X62.here hx rfl (hb hby at_489) rfl hr)))) ?_
        show oG p e below _ (T62.setTop (mkF m 490 #[sJ x0, sS, sI x1, sI x2, sI x3, sI nI_, sI ca_, sI cb_, sI cc_, sR b1, sR b5, sR b13, sR b22, sR rJ_, sR bJ_, sI tt_, sI d_, sI 1, sI nd_, sI 6, sI j_, sJ qv_, sS, sJ (-qv_), sS] [(.int ((6 : Int32) + d_)), (.ref bJ_)]))
        refine own_chs X62 hx hZ hown hw (hw _ (own_m 182 rfl)) (hw _ (own_m 183 rfl)) (hw _ (own_m 185 rfl)) (hw _ (own_m 184 rfl)) (hw _ (own_m 2 rfl)) (own_msg nN_ x0 ds_) (5 + (Jvm.Free.SBG.digitsL nN_ + Jvm.Free.SBG.GetCharsL.sgnL x0) + 1) f55 f56 f57 f58 (Or.inl ⟨rfl, rfl, rfl, fun c hc => (hmt_ c hc).2⟩) (own_up hmt_) f59 hs_COMPACT_STRINGS f60 hv_SIOOBE_FORMATTER (by rw [own_mlen]; omega) (by rw [own_mlen]; omega) (by rw [show 5 + (Jvm.Free.SBG.digitsL nN_ + Jvm.Free.SBG.GetCharsL.sgnL x0) + 1 = 6 + (Jvm.Free.SBG.digitsL nN_ + Jvm.Free.SBG.GetCharsL.sgnL x0) from by omega]; exact (own_add (a := 6) rfl hdN_).symm) (by decide) (W := 0) (by decide) (by decide) (by decide) e62 (by rw [hml]; rfl) (Nat.le_of_eq rfl) (hb hby at_490) ?_
        intro T64 X64 e64
        show oG p e below _ (T64.setTop (mkF m 493 #[sJ x0, sS, sI x1, sI x2, sI x3, sI nI_, sI ca_, sI cb_, sI cc_, sR b1, sR b5, sR b13, sR b22, sR rJ_, sR bJ_, sI tt_, sI d_, sI 1, sI nd_, sI 6, sI j_, sJ qv_, sS, sJ (-qv_), sS] [(.int ((own_msg nN_ x0 ds_).getD (5 + (Jvm.Free.SBG.digitsL nN_ + Jvm.Free.SBG.GetCharsL.sgnL x0) + 1) 0))]))
        refine og (fun _ hr => XS.bipush X64.here hx rfl (hb hby at_493) hr) ?_
        show oG p e below _ (T64.setTop (mkF m 495 #[sJ x0, sS, sI x1, sI x2, sI x3, sI nI_, sI ca_, sI cb_, sI cc_, sR b1, sR b5, sR b13, sR b22, sR rJ_, sR bJ_, sI tt_, sI d_, sI 1, sI nd_, sI 6, sI j_, sJ qv_, sS, sJ (-qv_), sS] [(.int 32), (.int ((own_msg nN_ x0 ds_).getD (5 + (Jvm.Free.SBG.digitsL nN_ + Jvm.Free.SBG.GetCharsL.sgnL x0) + 1) 0))]))
        have hk65 : ((own_msg nN_ x0 ds_).getD (5 + (Jvm.Free.SBG.digitsL nN_ + Jvm.Free.SBG.GetCharsL.sgnL x0) + 1) 0) = (32 : Int32) := own_ms_t (by decide)
        refine og (fun _ hr => XS.icmpYes X64.here hx rfl (pc0 := 495) (pc' := 500) rfl (hb hby at_495) rfl (teq hk65).1 (by decide) (by decide) hr) ?_
        show oG p e below _ (T64.setTop (mkF m 500 #[sJ x0, sS, sI x1, sI x2, sI x3, sI nI_, sI ca_, sI cb_, sI cc_, sR b1, sR b5, sR b13, sR b22, sR rJ_, sR bJ_, sI tt_, sI d_, sI 1, sI nd_, sI 6, sI j_, sJ qv_, sS, sJ (-qv_), sS] []))
        rcases hds_ with ⟨hq_, rfl⟩ | ⟨hq_, rfl⟩ | ⟨hq_, rfl⟩ | ⟨hq_, rfl⟩
        · subst hq_
          show oG p e below _ (T64.setTop (mkF m 500 #[sJ x0, sS, sI x1, sI x2, sI x3, sI 0, sI ca_, sI cb_, sI cc_, sR b1, sR b5, sR b13, sR b22, sR rJ_, sR bJ_, sI tt_, sI d_, sI 1, sI nd_, sI 6, sI j_, sJ qv_, sS, sJ (-qv_), sS] []))
          refine og (fun _ hr => XS.iload X64.here hx rfl (hb hby at_500) rfl (XS.iconst X64.here hx rfl (hb hby at_502) (XS.icmpYes X64.here hx rfl (pc0 := 503) (pc' := 523) rfl (hb hby at_503) rfl (tlt (by decide)).1 (by decide) (by decide) (XS.iload X64.here hx rfl (hb hby at_523) rfl (XS.iconst X64.here hx rfl (hb hby at_525) (XS.icmpYes X64.here hx rfl (pc0 := 526) (pc' := 546) rfl (hb hby at_526) rfl (tlt (by decide)).1 (by decide) (by decide) (XS.iload X64.here hx rfl (hb hby at_546) rfl (XS.iconst X64.here hx rfl (hb hby at_548) (XS.icmpYes X64.here hx rfl (pc0 := 549) (pc' := 569) rfl (hb hby at_549) rfl (tlt (by decide)).1 (by decide) (by decide) (XS.iconst X64.here hx rfl (hb hby at_569) hr)))))))))) ?_
          show oG p e below _ (T64.setTop (mkF m 570 #[sJ x0, sS, sI x1, sI x2, sI x3, sI 0, sI ca_, sI cb_, sI cc_, sR b1, sR b5, sR b13, sR b22, sR rJ_, sR bJ_, sI tt_, sI d_, sI 1, sI nd_, sI 6, sI j_, sJ qv_, sS, sJ (-qv_), sS] [(.int 1)]))
          have hk66 := (Nat.le_trans (Nat.le_trans (Nat.le_refl _) Kj.1) K50.1)
          have A67 := A0.trans Am
          have A68 := A67.trans (CHr.keep Kj sf0 A67.1)
          have A69 := A68.trans (CHr.keep K50 sf0 A68.1)
          exact own_retNW X64 hx hlk Bd.returns hS hk66 hZ hEL hh e64 A69 (t := .boolean) (by simp) (hb hby at_570) (by decide) (by decide) ⟨rfl, N50⟩
        · subst hq_
          show oG p e below _ (T64.setTop (mkF m 500 #[sJ x0, sS, sI x1, sI x2, sI x3, sI 1, sI ca_, sI cb_, sI cc_, sR b1, sR b5, sR b13, sR b22, sR rJ_, sR bJ_, sI tt_, sI d_, sI 1, sI nd_, sI 6, sI j_, sJ qv_, sS, sJ (-qv_), sS] []))
          refine og (fun _ hr => XS.iload X64.here hx rfl (hb hby at_500) rfl (XS.iconst X64.here hx rfl (hb hby at_502) (XS.icmpNo X64.here hx rfl (hb hby at_503) rfl (flt (by decide)).1 (XS.aload X64.here hx rfl (hb hby at_506) rfl rfl (XS.bipush X64.here hx rfl (hb hby at_508) (XS.iload X64.here hx rfl (hb hby at_510) rfl (XS.iadd X64.here hx rfl (hb hby at_512) rfl hr))))))) ?_
          show oG p e below _ (T64.setTop (mkF m 513 #[sJ x0, sS, sI x1, sI x2, sI x3, sI 1, sI ca_, sI cb_, sI cc_, sR b1, sR b5, sR b13, sR b22, sR rJ_, sR bJ_, sI tt_, sI d_, sI 1, sI nd_, sI 6, sI j_, sJ qv_, sS, sJ (-qv_), sS] [(.int ((7 : Int32) + d_)), (.ref bJ_)]))
          refine own_chs X64 hx hZ hown hw (hw _ (own_m 182 rfl)) (hw _ (own_m 183 rfl)) (hw _ (own_m 185 rfl)) (hw _ (own_m 184 rfl)) (hw _ (own_m 2 rfl)) (own_msg nN_ x0 [ca_]) (7 + (Jvm.Free.SBG.digitsL nN_ + Jvm.Free.SBG.GetCharsL.sgnL x0) + 0) f55 f56 f57 f58 (Or.inl ⟨rfl, rfl, rfl, fun c hc => (hmt_ c hc).2⟩) (own_up hmt_) f59 hs_COMPACT_STRINGS f60 hv_SIOOBE_FORMATTER (by rw [own_mlen]; omega) (by rw [own_mlen]; show _ < 7 + (Jvm.Free.SBG.digitsL nN_ + Jvm.Free.SBG.GetCharsL.sgnL x0) + 1; omega) (by rw [show 7 + (Jvm.Free.SBG.digitsL nN_ + Jvm.Free.SBG.GetCharsL.sgnL x0) + 0 = 7 + (Jvm.Free.SBG.digitsL nN_ + Jvm.Free.SBG.GetCharsL.sgnL x0) from by omega]; exact (own_add (a := 7) rfl hdN_).symm) (by decide) (W := 0) (by decide) (by decide) (by decide) e64 (by rw [hml]; rfl) (Nat.le_of_eq rfl) (hb hby at_513) ?_
          intro T70 X70 e70
          show oG p e below _ (T70.setTop (mkF m 516 #[sJ x0, sS, sI x1, sI x2, sI x3, sI 1, sI ca_, sI cb_, sI cc_, sR b1, sR b5, sR b13, sR b22, sR rJ_, sR bJ_, sI tt_, sI d_, sI 1, sI nd_, sI 6, sI j_, sJ qv_, sS, sJ (-qv_), sS] [(.int ((own_msg nN_ x0 [ca_]).getD (7 + (Jvm.Free.SBG.digitsL nN_ + Jvm.Free.SBG.GetCharsL.sgnL x0) + 0) 0))]))
          refine og (fun _ hr => XS.iload X70.here hx rfl (hb hby at_516) rfl hr) ?_
          show oG p e below _ (T70.setTop (mkF m 518 #[sJ x0, sS, sI x1, sI x2, sI x3, sI 1, sI ca_, sI cb_, sI cc_, sR b1, sR b5, sR b13, sR b22, sR rJ_, sR bJ_, sI tt_, sI d_, sI 1, sI nd_, sI 6, sI j_, sJ qv_, sS, sJ (-qv_), sS] [(.int ca_), (.int ((own_msg nN_ x0 [ca_]).getD (7 + (Jvm.Free.SBG.digitsL nN_ + Jvm.Free.SBG.GetCharsL.sgnL x0) + 0) 0))]))
          have hk71 : ((own_msg nN_ x0 [ca_]).getD (7 + (Jvm.Free.SBG.digitsL nN_ + Jvm.Free.SBG.GetCharsL.sgnL x0) + 0) 0) = ca_ := own_ms_r
          refine og (fun _ hr => XS.icmpYes X70.here hx rfl (pc0 := 518) (pc' := 523) rfl (hb hby at_518) rfl (teq hk71).1 (by decide) (by decide) hr) ?_
          show oG p e below _ (T70.setTop (mkF m 523 #[sJ x0, sS, sI x1, sI x2, sI x3, sI 1, sI ca_, sI cb_, sI cc_, sR b1, sR b5, sR b13, sR b22, sR rJ_, sR bJ_, sI tt_, sI d_, sI 1, sI nd_, sI 6, sI j_, sJ qv_, sS, sJ (-qv_), sS] []))
          refine og (fun _ hr => XS.iload X70.here hx rfl (hb hby at_523) rfl (XS.iconst X70.here hx rfl (hb hby at_525) (XS.icmpYes X70.here hx rfl (pc0 := 526) (pc' := 546) rfl (hb hby at_526) rfl (tlt (by decide)).1 (by decide) (by decide) (XS.iload X70.here hx rfl (hb hby at_546) rfl (XS.iconst X70.here hx rfl (hb hby at_548) (XS.icmpYes X70.here hx rfl (pc0 := 549) (pc' := 569) rfl (hb hby at_549) rfl (tlt (by decide)).1 (by decide) (by decide) (XS.iconst X70.here hx rfl (hb hby at_569) hr))))))) ?_
          show oG p e below _ (T70.setTop (mkF m 570 #[sJ x0, sS, sI x1, sI x2, sI x3, sI 1, sI ca_, sI cb_, sI cc_, sR b1, sR b5, sR b13, sR b22, sR rJ_, sR bJ_, sI tt_, sI d_, sI 1, sI nd_, sI 6, sI j_, sJ qv_, sS, sJ (-qv_), sS] [(.int 1)]))
          have hk72 := (Nat.le_trans (Nat.le_trans (Nat.le_refl _) Kj.1) K50.1)
          have A73 := A0.trans Am
          have A74 := A73.trans (CHr.keep Kj sf0 A73.1)
          have A75 := A74.trans (CHr.keep K50 sf0 A74.1)
          exact own_retNW X70 hx hlk Bd.returns hS hk72 hZ hEL hh e70 A75 (t := .boolean) (by simp) (hb hby at_570) (by decide) (by decide) ⟨rfl, N50⟩
        · subst hq_
          show oG p e below _ (T64.setTop (mkF m 500 #[sJ x0, sS, sI x1, sI x2, sI x3, sI 2, sI ca_, sI cb_, sI cc_, sR b1, sR b5, sR b13, sR b22, sR rJ_, sR bJ_, sI tt_, sI d_, sI 1, sI nd_, sI 6, sI j_, sJ qv_, sS, sJ (-qv_), sS] []))
          refine og (fun _ hr => XS.iload X64.here hx rfl (hb hby at_500) rfl (XS.iconst X64.here hx rfl (hb hby at_502) (XS.icmpNo X64.here hx rfl (hb hby at_503) rfl (flt (by decide)).1 (XS.aload X64.here hx rfl (hb hby at_506) rfl rfl (XS.bipush X64.here hx rfl (hb hby at_508) (XS.iload X64.here hx rfl (hb hby at_510) rfl (XS.iadd X64.here hx rfl (hb hby at_512) rfl hr))))))) ?_
          show oG p e below _ (T64.setTop (mkF m 513 #[sJ x0, sS, sI x1, sI x2, sI x3, sI 2, sI ca_, sI cb_, sI cc_, sR b1, sR b5, sR b13, sR b22, sR rJ_, sR bJ_, sI tt_, sI d_, sI 1, sI nd_, sI 6, sI j_, sJ qv_, sS, sJ (-qv_), sS] [(.int ((7 : Int32) + d_)), (.ref bJ_)]))
          refine own_chs X64 hx hZ hown hw (hw _ (own_m 182 rfl)) (hw _ (own_m 183 rfl)) (hw _ (own_m 185 rfl)) (hw _ (own_m 184 rfl)) (hw _ (own_m 2 rfl)) (own_msg nN_ x0 [ca_, cb_]) (7 + (Jvm.Free.SBG.digitsL nN_ + Jvm.Free.SBG.GetCharsL.sgnL x0) + 0) f55 f56 f57 f58 (Or.inl ⟨rfl, rfl, rfl, fun c hc => (hmt_ c hc).2⟩) (own_up hmt_) f59 hs_COMPACT_STRINGS f60 hv_SIOOBE_FORMATTER (by rw [own_mlen]; omega) (by rw [own_mlen]; show _ < 7 + (Jvm.Free.SBG.digitsL nN_ + Jvm.Free.SBG.GetCharsL.sgnL x0) + 2; omega) (by rw [show 7 + (Jvm.Free.SBG.digitsL nN_ + Jvm.Free.SBG.GetCharsL.sgnL x0) + 0 = 7 + (Jvm.Free.SBG.digitsL nN_ + Jvm.Free.SBG.GetCharsL.sgnL x0) from by omega]; exact (own_add (a := 7) rfl hdN_).symm) (by decide) (W := 0) (by decide) (by decide) (by decide) e64 (by rw [hml]; rfl) (Nat.le_of_eq rfl) (hb hby at_513) ?_
          intro T76 X76 e76
          show oG p e below _ (T76.setTop (mkF m 516 #[sJ x0, sS, sI x1, sI x2, sI x3, sI 2, sI ca_, sI cb_, sI cc_, sR b1, sR b5, sR b13, sR b22, sR rJ_, sR bJ_, sI tt_, sI d_, sI 1, sI nd_, sI 6, sI j_, sJ qv_, sS, sJ (-qv_), sS] [(.int ((own_msg nN_ x0 [ca_, cb_]).getD (7 + (Jvm.Free.SBG.digitsL nN_ + Jvm.Free.SBG.GetCharsL.sgnL x0) + 0) 0))]))
          refine og (fun _ hr => XS.iload X76.here hx rfl (hb hby at_516) rfl hr) ?_
          show oG p e below _ (T76.setTop (mkF m 518 #[sJ x0, sS, sI x1, sI x2, sI x3, sI 2, sI ca_, sI cb_, sI cc_, sR b1, sR b5, sR b13, sR b22, sR rJ_, sR bJ_, sI tt_, sI d_, sI 1, sI nd_, sI 6, sI j_, sJ qv_, sS, sJ (-qv_), sS] [(.int ca_), (.int ((own_msg nN_ x0 [ca_, cb_]).getD (7 + (Jvm.Free.SBG.digitsL nN_ + Jvm.Free.SBG.GetCharsL.sgnL x0) + 0) 0))]))
          have hk77 : ((own_msg nN_ x0 [ca_, cb_]).getD (7 + (Jvm.Free.SBG.digitsL nN_ + Jvm.Free.SBG.GetCharsL.sgnL x0) + 0) 0) = ca_ := own_ms_r
          refine og (fun _ hr => XS.icmpYes X76.here hx rfl (pc0 := 518) (pc' := 523) rfl (hb hby at_518) rfl (teq hk77).1 (by decide) (by decide) hr) ?_
          show oG p e below _ (T76.setTop (mkF m 523 #[sJ x0, sS, sI x1, sI x2, sI x3, sI 2, sI ca_, sI cb_, sI cc_, sR b1, sR b5, sR b13, sR b22, sR rJ_, sR bJ_, sI tt_, sI d_, sI 1, sI nd_, sI 6, sI j_, sJ qv_, sS, sJ (-qv_), sS] []))
          refine og (fun _ hr => XS.iload X76.here hx rfl (hb hby at_523) rfl (XS.iconst X76.here hx rfl (hb hby at_525) (XS.icmpNo X76.here hx rfl (hb hby at_526) rfl (flt (by decide)).1 (XS.aload X76.here hx rfl (hb hby at_529) rfl rfl (XS.bipush X76.here hx rfl (hb hby at_531) (XS.iload X76.here hx rfl (hb hby at_533) rfl (XS.iadd X76.here hx rfl (hb hby at_535) rfl hr))))))) ?_
          show oG p e below _ (T76.setTop (mkF m 536 #[sJ x0, sS, sI x1, sI x2, sI x3, sI 2, sI ca_, sI cb_, sI cc_, sR b1, sR b5, sR b13, sR b22, sR rJ_, sR bJ_, sI tt_, sI d_, sI 1, sI nd_, sI 6, sI j_, sJ qv_, sS, sJ (-qv_), sS] [(.int ((8 : Int32) + d_)), (.ref bJ_)]))
          refine own_chs X76 hx hZ hown hw (hw _ (own_m 182 rfl)) (hw _ (own_m 183 rfl)) (hw _ (own_m 185 rfl)) (hw _ (own_m 184 rfl)) (hw _ (own_m 2 rfl)) (own_msg nN_ x0 [ca_, cb_]) (7 + (Jvm.Free.SBG.digitsL nN_ + Jvm.Free.SBG.GetCharsL.sgnL x0) + 1) f55 f56 f57 f58 (Or.inl ⟨rfl, rfl, rfl, fun c hc => (hmt_ c hc).2⟩) (own_up hmt_) f59 hs_COMPACT_STRINGS f60 hv_SIOOBE_FORMATTER (by rw [own_mlen]; omega) (by rw [own_mlen]; show _ < 7 + (Jvm.Free.SBG.digitsL nN_ + Jvm.Free.SBG.GetCharsL.sgnL x0) + 2; omega) (by rw [show 7 + (Jvm.Free.SBG.digitsL nN_ + Jvm.Free.SBG.GetCharsL.sgnL x0) + 1 = 8 + (Jvm.Free.SBG.digitsL nN_ + Jvm.Free.SBG.GetCharsL.sgnL x0) from by omega]; exact (own_add (a := 8) rfl hdN_).symm) (by decide) (W := 0) (by decide) (by decide) (by decide) e76 (by rw [hml]; rfl) (Nat.le_of_eq rfl) (hb hby at_536) ?_
          intro T78 X78 e78
          show oG p e below _ (T78.setTop (mkF m 539 #[sJ x0, sS, sI x1, sI x2, sI x3, sI 2, sI ca_, sI cb_, sI cc_, sR b1, sR b5, sR b13, sR b22, sR rJ_, sR bJ_, sI tt_, sI d_, sI 1, sI nd_, sI 6, sI j_, sJ qv_, sS, sJ (-qv_), sS] [(.int ((own_msg nN_ x0 [ca_, cb_]).getD (7 + (Jvm.Free.SBG.digitsL nN_ + Jvm.Free.SBG.GetCharsL.sgnL x0) + 1) 0))]))
          refine og (fun _ hr => XS.iload X78.here hx rfl (hb hby at_539) rfl hr) ?_
          show oG p e below _ (T78.setTop (mkF m 541 #[sJ x0, sS, sI x1, sI x2, sI x3, sI 2, sI ca_, sI cb_, sI cc_, sR b1, sR b5, sR b13, sR b22, sR rJ_, sR bJ_, sI tt_, sI d_, sI 1, sI nd_, sI 6, sI j_, sJ qv_, sS, sJ (-qv_), sS] [(.int cb_), (.int ((own_msg nN_ x0 [ca_, cb_]).getD (7 + (Jvm.Free.SBG.digitsL nN_ + Jvm.Free.SBG.GetCharsL.sgnL x0) + 1) 0))]))
          have hk79 : ((own_msg nN_ x0 [ca_, cb_]).getD (7 + (Jvm.Free.SBG.digitsL nN_ + Jvm.Free.SBG.GetCharsL.sgnL x0) + 1) 0) = cb_ := own_ms_r
          refine og (fun _ hr => XS.icmpYes X78.here hx rfl (pc0 := 541) (pc' := 546) rfl (hb hby at_541) rfl (teq hk79).1 (by decide) (by decide) hr) ?_
          show oG p e below _ (T78.setTop (mkF m 546 #[sJ x0, sS, sI x1, sI x2, sI x3, sI 2, sI ca_, sI cb_, sI cc_, sR b1, sR b5, sR b13, sR b22, sR rJ_, sR bJ_, sI tt_, sI d_, sI 1, sI nd_, sI 6, sI j_, sJ qv_, sS, sJ (-qv_), sS] []))
          refine og (fun _ hr => XS.iload X78.here hx rfl (hb hby at_546) rfl (XS.iconst X78.here hx rfl (hb hby at_548) (XS.icmpYes X78.here hx rfl (pc0 := 549) (pc' := 569) rfl (hb hby at_549) rfl (tlt (by decide)).1 (by decide) (by decide) (XS.iconst X78.here hx rfl (hb hby at_569) hr)))) ?_
          show oG p e below _ (T78.setTop (mkF m 570 #[sJ x0, sS, sI x1, sI x2, sI x3, sI 2, sI ca_, sI cb_, sI cc_, sR b1, sR b5, sR b13, sR b22, sR rJ_, sR bJ_, sI tt_, sI d_, sI 1, sI nd_, sI 6, sI j_, sJ qv_, sS, sJ (-qv_), sS] [(.int 1)]))
          have hk80 := (Nat.le_trans (Nat.le_trans (Nat.le_refl _) Kj.1) K50.1)
          have A81 := A0.trans Am
          have A82 := A81.trans (CHr.keep Kj sf0 A81.1)
          have A83 := A82.trans (CHr.keep K50 sf0 A82.1)
          exact own_retNW X78 hx hlk Bd.returns hS hk80 hZ hEL hh e78 A83 (t := .boolean) (by simp) (hb hby at_570) (by decide) (by decide) ⟨rfl, N50⟩
        subst hq_
        show oG p e below _ (T64.setTop (mkF m 500 #[sJ x0, sS, sI x1, sI x2, sI x3, sI 3, sI ca_, sI cb_, sI cc_, sR b1, sR b5, sR b13, sR b22, sR rJ_, sR bJ_, sI tt_, sI d_, sI 1, sI nd_, sI 6, sI j_, sJ qv_, sS, sJ (-qv_), sS] []))
        refine og (fun _ hr => XS.iload X64.here hx rfl (hb hby at_500) rfl (XS.iconst X64.here hx rfl (hb hby at_502) (XS.icmpNo X64.here hx rfl (hb hby at_503) rfl (flt (by decide)).1 (XS.aload X64.here hx rfl (hb hby at_506) rfl rfl (XS.bipush X64.here hx rfl (hb hby at_508) (XS.iload X64.here hx rfl (hb hby at_510) rfl (XS.iadd X64.here hx rfl (hb hby at_512) rfl hr))))))) ?_
        show oG p e below _ (T64.setTop (mkF m 513 #[sJ x0, sS, sI x1, sI x2, sI x3, sI 3, sI ca_, sI cb_, sI cc_, sR b1, sR b5, sR b13, sR b22, sR rJ_, sR bJ_, sI tt_, sI d_, sI 1, sI nd_, sI 6, sI j_, sJ qv_, sS, sJ (-qv_), sS] [(.int ((7 : Int32) + d_)), (.ref bJ_)]))
        refine own_chs X64 hx hZ hown hw (hw _ (own_m 182 rfl)) (hw _ (own_m 183 rfl)) (hw _ (own_m 185 rfl)) (hw _ (own_m 184 rfl)) (hw _ (own_m 2 rfl)) (own_msg nN_ x0 [ca_, cb_, cc_]) (7 + (Jvm.Free.SBG.digitsL nN_ + Jvm.Free.SBG.GetCharsL.sgnL x0) + 0) f55 f56 f57 f58 (Or.inl ⟨rfl, rfl, rfl, fun c hc => (hmt_ c hc).2⟩) (own_up hmt_) f59 hs_COMPACT_STRINGS f60 hv_SIOOBE_FORMATTER (by rw [own_mlen]; omega) (by rw [own_mlen]; show _ < 7 + (Jvm.Free.SBG.digitsL nN_ + Jvm.Free.SBG.GetCharsL.sgnL x0) + 3; omega) (by rw [show 7 + (Jvm.Free.SBG.digitsL nN_ + Jvm.Free.SBG.GetCharsL.sgnL x0) + 0 = 7 + (Jvm.Free.SBG.digitsL nN_ + Jvm.Free.SBG.GetCharsL.sgnL x0) from by omega]; exact (own_add (a := 7) rfl hdN_).symm) (by decide) (W := 0) (by decide) (by decide) (by decide) e64 (by rw [hml]; rfl) (Nat.le_of_eq rfl) (hb hby at_513) ?_
        intro T84 X84 e84
        show oG p e below _ (T84.setTop (mkF m 516 #[sJ x0, sS, sI x1, sI x2, sI x3, sI 3, sI ca_, sI cb_, sI cc_, sR b1, sR b5, sR b13, sR b22, sR rJ_, sR bJ_, sI tt_, sI d_, sI 1, sI nd_, sI 6, sI j_, sJ qv_, sS, sJ (-qv_), sS] [(.int ((own_msg nN_ x0 [ca_, cb_, cc_]).getD (7 + (Jvm.Free.SBG.digitsL nN_ + Jvm.Free.SBG.GetCharsL.sgnL x0) + 0) 0))]))
        refine og (fun _ hr => XS.iload X84.here hx rfl (hb hby at_516) rfl hr) ?_
        show oG p e below _ (T84.setTop (mkF m 518 #[sJ x0, sS, sI x1, sI x2, sI x3, sI 3, sI ca_, sI cb_, sI cc_, sR b1, sR b5, sR b13, sR b22, sR rJ_, sR bJ_, sI tt_, sI d_, sI 1, sI nd_, sI 6, sI j_, sJ qv_, sS, sJ (-qv_), sS] [(.int ca_), (.int ((own_msg nN_ x0 [ca_, cb_, cc_]).getD (7 + (Jvm.Free.SBG.digitsL nN_ + Jvm.Free.SBG.GetCharsL.sgnL x0) + 0) 0))]))
        have hk85 : ((own_msg nN_ x0 [ca_, cb_, cc_]).getD (7 + (Jvm.Free.SBG.digitsL nN_ + Jvm.Free.SBG.GetCharsL.sgnL x0) + 0) 0) = ca_ := own_ms_r
        refine og (fun _ hr => XS.icmpYes X84.here hx rfl (pc0 := 518) (pc' := 523) rfl (hb hby at_518) rfl (teq hk85).1 (by decide) (by decide) hr) ?_
        show oG p e below _ (T84.setTop (mkF m 523 #[sJ x0, sS, sI x1, sI x2, sI x3, sI 3, sI ca_, sI cb_, sI cc_, sR b1, sR b5, sR b13, sR b22, sR rJ_, sR bJ_, sI tt_, sI d_, sI 1, sI nd_, sI 6, sI j_, sJ qv_, sS, sJ (-qv_), sS] []))
        refine og (fun _ hr => XS.iload X84.here hx rfl (hb hby at_523) rfl (XS.iconst X84.here hx rfl (hb hby at_525) (XS.icmpNo X84.here hx rfl (hb hby at_526) rfl (flt (by decide)).1 (XS.aload X84.here hx rfl (hb hby at_529) rfl rfl (XS.bipush X84.here hx rfl (hb hby at_531) (XS.iload X84.here hx rfl (hb hby at_533) rfl (XS.iadd X84.here hx rfl (hb hby at_535) rfl hr))))))) ?_
        show oG p e below _ (T84.setTop (mkF m 536 #[sJ x0, sS, sI x1, sI x2, sI x3, sI 3, sI ca_, sI cb_, sI cc_, sR b1, sR b5, sR b13, sR b22, sR rJ_, sR bJ_, sI tt_, sI d_, sI 1, sI nd_, sI 6, sI j_, sJ qv_, sS, sJ (-qv_), sS] [(.int ((8 : Int32) + d_)), (.ref bJ_)]))
        refine own_chs X84 hx hZ hown hw (hw _ (own_m 182 rfl)) (hw _ (own_m 183 rfl)) (hw _ (own_m 185 rfl)) (hw _ (own_m 184 rfl)) (hw _ (own_m 2 rfl)) (own_msg nN_ x0 [ca_, cb_, cc_]) (7 + (Jvm.Free.SBG.digitsL nN_ + Jvm.Free.SBG.GetCharsL.sgnL x0) + 1) f55 f56 f57 f58 (Or.inl ⟨rfl, rfl, rfl, fun c hc => (hmt_ c hc).2⟩) (own_up hmt_) f59 hs_COMPACT_STRINGS f60 hv_SIOOBE_FORMATTER (by rw [own_mlen]; omega) (by rw [own_mlen]; show _ < 7 + (Jvm.Free.SBG.digitsL nN_ + Jvm.Free.SBG.GetCharsL.sgnL x0) + 3; omega) (by rw [show 7 + (Jvm.Free.SBG.digitsL nN_ + Jvm.Free.SBG.GetCharsL.sgnL x0) + 1 = 8 + (Jvm.Free.SBG.digitsL nN_ + Jvm.Free.SBG.GetCharsL.sgnL x0) from by omega]; exact (own_add (a := 8) rfl hdN_).symm) (by decide) (W := 0) (by decide) (by decide) (by decide) e84 (by rw [hml]; rfl) (Nat.le_of_eq rfl) (hb hby at_536) ?_
        intro T86 X86 e86
        show oG p e below _ (T86.setTop (mkF m 539 #[sJ x0, sS, sI x1, sI x2, sI x3, sI 3, sI ca_, sI cb_, sI cc_, sR b1, sR b5, sR b13, sR b22, sR rJ_, sR bJ_, sI tt_, sI d_, sI 1, sI nd_, sI 6, sI j_, sJ qv_, sS, sJ (-qv_), sS] [(.int ((own_msg nN_ x0 [ca_, cb_, cc_]).getD (7 + (Jvm.Free.SBG.digitsL nN_ + Jvm.Free.SBG.GetCharsL.sgnL x0) + 1) 0))]))
        refine og (fun _ hr => XS.iload X86.here hx rfl (hb hby at_539) rfl hr) ?_
        show oG p e below _ (T86.setTop (mkF m 541 #[sJ x0, sS, sI x1, sI x2, sI x3, sI 3, sI ca_, sI cb_, sI cc_, sR b1, sR b5, sR b13, sR b22, sR rJ_, sR bJ_, sI tt_, sI d_, sI 1, sI nd_, sI 6, sI j_, sJ qv_, sS, sJ (-qv_), sS] [(.int cb_), (.int ((own_msg nN_ x0 [ca_, cb_, cc_]).getD (7 + (Jvm.Free.SBG.digitsL nN_ + Jvm.Free.SBG.GetCharsL.sgnL x0) + 1) 0))]))
        have hk87 : ((own_msg nN_ x0 [ca_, cb_, cc_]).getD (7 + (Jvm.Free.SBG.digitsL nN_ + Jvm.Free.SBG.GetCharsL.sgnL x0) + 1) 0) = cb_ := own_ms_r
        refine og (fun _ hr => XS.icmpYes X86.here hx rfl (pc0 := 541) (pc' := 546) rfl (hb hby at_541) rfl (teq hk87).1 (by decide) (by decide) hr) ?_
        show oG p e below _ (T86.setTop (mkF m 546 #[sJ x0, sS, sI x1, sI x2, sI x3, sI 3, sI ca_, sI cb_, sI cc_, sR b1, sR b5, sR b13, sR b22, sR rJ_, sR bJ_, sI tt_, sI d_, sI 1, sI nd_, sI 6, sI j_, sJ qv_, sS, sJ (-qv_), sS] []))
        refine og (fun _ hr => XS.iload X86.here hx rfl (hb hby at_546) rfl (XS.iconst X86.here hx rfl (hb hby at_548) (XS.icmpNo X86.here hx rfl (hb hby at_549) rfl (flt (by decide)).1 (XS.aload X86.here hx rfl (hb hby at_552) rfl rfl (XS.bipush X86.here hx rfl (hb hby at_554) (XS.iload X86.here hx rfl (hb hby at_556) rfl (XS.iadd X86.here hx rfl (hb hby at_558) rfl hr))))))) ?_
        show oG p e below _ (T86.setTop (mkF m 559 #[sJ x0, sS, sI x1, sI x2, sI x3, sI 3, sI ca_, sI cb_, sI cc_, sR b1, sR b5, sR b13, sR b22, sR rJ_, sR bJ_, sI tt_, sI d_, sI 1, sI nd_, sI 6, sI j_, sJ qv_, sS, sJ (-qv_), sS] [(.int ((9 : Int32) + d_)), (.ref bJ_)]))
        refine own_chs X86 hx hZ hown hw (hw _ (own_m 182 rfl)) (hw _ (own_m 183 rfl)) (hw _ (own_m 185 rfl)) (hw _ (own_m 184 rfl)) (hw _ (own_m 2 rfl)) (own_msg nN_ x0 [ca_, cb_, cc_]) (7 + (Jvm.Free.SBG.digitsL nN_ + Jvm.Free.SBG.GetCharsL.sgnL x0) + 2) f55 f56 f57 f58 (Or.inl ⟨rfl, rfl, rfl, fun c hc => (hmt_ c hc).2⟩) (own_up hmt_) f59 hs_COMPACT_STRINGS f60 hv_SIOOBE_FORMATTER (by rw [own_mlen]; omega) (by rw [own_mlen]; show _ < 7 + (Jvm.Free.SBG.digitsL nN_ + Jvm.Free.SBG.GetCharsL.sgnL x0) + 3; omega) (by rw [show 7 + (Jvm.Free.SBG.digitsL nN_ + Jvm.Free.SBG.GetCharsL.sgnL x0) + 2 = 9 + (Jvm.Free.SBG.digitsL nN_ + Jvm.Free.SBG.GetCharsL.sgnL x0) from by omega]; exact (own_add (a := 9) rfl hdN_).symm) (by decide) (W := 0) (by decide) (by decide) (by decide) e86 (by rw [hml]; rfl) (Nat.le_of_eq rfl) (hb hby at_559) ?_
        intro T88 X88 e88
        show oG p e below _ (T88.setTop (mkF m 562 #[sJ x0, sS, sI x1, sI x2, sI x3, sI 3, sI ca_, sI cb_, sI cc_, sR b1, sR b5, sR b13, sR b22, sR rJ_, sR bJ_, sI tt_, sI d_, sI 1, sI nd_, sI 6, sI j_, sJ qv_, sS, sJ (-qv_), sS] [(.int ((own_msg nN_ x0 [ca_, cb_, cc_]).getD (7 + (Jvm.Free.SBG.digitsL nN_ + Jvm.Free.SBG.GetCharsL.sgnL x0) + 2) 0))]))
        refine og (fun _ hr => XS.iload X88.here hx rfl (hb hby at_562) rfl hr) ?_
        show oG p e below _ (T88.setTop (mkF m 564 #[sJ x0, sS, sI x1, sI x2, sI x3, sI 3, sI ca_, sI cb_, sI cc_, sR b1, sR b5, sR b13, sR b22, sR rJ_, sR bJ_, sI tt_, sI d_, sI 1, sI nd_, sI 6, sI j_, sJ qv_, sS, sJ (-qv_), sS] [(.int cc_), (.int ((own_msg nN_ x0 [ca_, cb_, cc_]).getD (7 + (Jvm.Free.SBG.digitsL nN_ + Jvm.Free.SBG.GetCharsL.sgnL x0) + 2) 0))]))
        have hk89 : ((own_msg nN_ x0 [ca_, cb_, cc_]).getD (7 + (Jvm.Free.SBG.digitsL nN_ + Jvm.Free.SBG.GetCharsL.sgnL x0) + 2) 0) = cc_ := own_ms_r
        refine og (fun _ hr => XS.icmpYes X88.here hx rfl (pc0 := 564) (pc' := 569) rfl (hb hby at_564) rfl (teq hk89).1 (by decide) (by decide) hr) ?_
        show oG p e below _ (T88.setTop (mkF m 569 #[sJ x0, sS, sI x1, sI x2, sI x3, sI 3, sI ca_, sI cb_, sI cc_, sR b1, sR b5, sR b13, sR b22, sR rJ_, sR bJ_, sI tt_, sI d_, sI 1, sI nd_, sI 6, sI j_, sJ qv_, sS, sJ (-qv_), sS] []))
        refine og (fun _ hr => XS.iconst X88.here hx rfl (hb hby at_569) hr) ?_
        show oG p e below _ (T88.setTop (mkF m 570 #[sJ x0, sS, sI x1, sI x2, sI x3, sI 3, sI ca_, sI cb_, sI cc_, sR b1, sR b5, sR b13, sR b22, sR rJ_, sR bJ_, sI tt_, sI d_, sI 1, sI nd_, sI 6, sI j_, sJ qv_, sS, sJ (-qv_), sS] [(.int 1)]))
        have hk90 := (Nat.le_trans (Nat.le_trans (Nat.le_refl _) Kj.1) K50.1)
        have A91 := A0.trans Am
        have A92 := A91.trans (CHr.keep Kj sf0 A91.1)
        have A93 := A92.trans (CHr.keep K50 sf0 A92.1)
        exact own_retNW X88 hx hlk Bd.returns hS hk90 hZ hEL hh e88 A93 (t := .boolean) (by simp) (hb hby at_570) (by decide) (by decide) ⟨rfl, N50⟩
      refine og (fun _ hr => XS.iload X47.here hx rfl (hb hby at_306) rfl (XS.ifYes X47.here hx rfl (pc0 := 308) (pc' := 350) rfl (hb hby at_308) rfl ((if0 _ _).trans (feq (by decide)).2) (by decide) (by decide) (XS.iload X47.here hx rfl (hb hby at_350) rfl (XS.iconst X47.here hx rfl (hb hby at_352) hr)))) ?_
      show oG p e below _ (T47.setTop (mkF m 353 #[sJ x0, sS, sI x1, sI x2, sI x3, sI nI_, sI ca_, sI cb_, sI cc_, sR b1, sR b5, sR b13, sR b22, sR rJ_, sR bJ_, sI tt_, sI d_, sI 1, sI nd_, sU, sU, sU, sU, sU, sU] [(.int 1), (.int nd_)]))
      rcases Classical.em ((1 : Int32) < nd_) with c94 | c94
      · skip
        refine og (fun _ hr => XS.icmpNo X47.here hx rfl (hb hby at_353) rfl (tlt c94).2.2.2 hr) ?_
        show oG p e below _ (T47.setTop (mkF m 356 #[sJ x0, sS, sI x1, sI x2, sI x3, sI nI_, sI ca_, sI cb_, sI cc_, sR b1, sR b5, sR b13, sR b22, sR rJ_, sR bJ_, sI tt_, sI d_, sI 1, sI nd_, sU, sU, sU, sU, sU, sU] []))
        refine og (fun _ hr => XS.lloadN X47.here hx rfl (hb hby at_356) rfl (XS.iload X47.here hx rfl (hb hby at_357) rfl (XS.iconst X47.here hx rfl (hb hby at_359) (XS.isub X47.here hx rfl (hb hby at_360) rfl hr)))) ?_
        show oG p e below _ (T47.setTop (mkF m 361 #[sJ x0, sS, sI x1, sI x2, sI x3, sI nI_, sI ca_, sI cb_, sI cc_, sR b1, sR b5, sR b13, sR b22, sR rJ_, sR bJ_, sI tt_, sI d_, sI 1, sI nd_, sU, sU, sU, sU, sU, sU] [(.int (nd_ - (1 : Int32))), (.long x0)]))
        have hpk_ : ((Jvm.Free.SBG.digitsL nN_) - 1) < 19 := by omega
        have hb1_ : 1 < (Jvm.Free.SBG.digitsL nN_) := by have q := c94; simp only [Int32.lt_iff_toInt_lt, Int32.reduceToInt] at q; omega
        have Z96 := (Nat.le_trans Z0 Km.1)
        refine own_cs X47 hx hZ hown (hw _ (own_m 204 rfl)) (hw _ (own_m 205 rfl)) (hw _ (own_m 206 rfl)) (hw _ (own_m 207 rfl)) (by decide) (rm := { frames := 0, cells := 1, slots := 19, locals := 0 }) (rm_pow l Z a0 hw [] (nd_ - (1 : Int32)) ((Jvm.Free.SBG.digitsL nN_) - 1) hm n0 Z96 (own_m19 hndN_ hdg_.2.2.1 (by omega)) hpk_) (by decide) (W := 2) (by decide) (by decide) (by decide) e47 (by rw [hml]; rfl) (argsL := [(.int (nd_ - (1 : Int32)))]) (lenOf own_pd26 rfl) (rest := [(.long x0)]) rfl rfl (Nat.le_of_eq rfl) (hb hby at_361) ?_
        intro _ T95 L95 X95 hQ95
        obtain ⟨rfl, N95q, K95⟩ := hQ95
        have N95 := Fr.app Nm N95q
        show oG p e below _ (T95.setTop (mkF m 364 #[sJ x0, sS, sI x1, sI x2, sI x3, sI nI_, sI ca_, sI cb_, sI cc_, sR b1, sR b5, sR b13, sR b22, sR rJ_, sR bJ_, sI tt_, sI d_, sI 1, sI nd_, sU, sU, sU, sU, sU, sU] [(.long (own_pw ((Jvm.Free.SBG.digitsL nN_) - 1))), (.long x0)]))
        refine og (fun _ hr => XS.lneg X95.here hx rfl (hb hby at_364) rfl (XS.lcmp X95.here hx rfl (hb hby at_365) rfl hr)) ?_
        show oG p e below _ (T95.setTop (mkF m 366 #[sJ x0, sS, sI x1, sI x2, sI x3, sI nI_, sI ca_, sI cb_, sI cc_, sR b1, sR b5, sR b13, sR b22, sR rJ_, sR bJ_, sI tt_, sI d_, sI 1, sI nd_, sU, sU, sU, sU, sU, sU] [(.int (lcmpW x0 (-(own_pw ((Jvm.Free.SBG.digitsL nN_) - 1)))))]))
        have hk97 : ¬ ((0 : Int32) < (lcmpW x0 (-(own_pw ((Jvm.Free.SBG.digitsL nN_) - 1))))) := by
          have q := c_lcmp x0 (-(own_pw ((Jvm.Free.SBG.digitsL nN_) - 1)))
          have e := own_pw_v ((Jvm.Free.SBG.digitsL nN_) - 1) hpk_
          have p1 : 0 < 10 ^ ((Jvm.Free.SBG.digitsL nN_) - 1) := Nat.pow_pos (by decide)
          have g := c_lneg (own_pw ((Jvm.Free.SBG.digitsL nN_) - 1))
          have g2 := rng64 (-(own_pw ((Jvm.Free.SBG.digitsL nN_) - 1)))
          have g3 := rng64 (own_pw ((Jvm.Free.SBG.digitsL nN_) - 1))
          have z := hdg_.2.1 (own_d0 (by omega))
          have y := hdg_.1
          simp only [Int32.lt_iff_toInt_lt, Int32.reduceToInt]
          omega
        refine og (fun _ hr => XS.ifYes X95.here hx rfl (pc0 := 366) (pc' := 371) rfl (hb hby at_366) rfl ((if0 _ _).trans (flt hk97).2.2.2) (by decide) (by decide) hr) ?_
        show oG p e below _ (T95.setTop (mkF m 371 #[sJ x0, sS, sI x1, sI x2, sI x3, sI nI_, sI ca_, sI cb_, sI cc_, sR b1, sR b5, sR b13, sR b22, sR rJ_, sR bJ_, sI tt_, sI d_, sI 1, sI nd_, sU, sU, sU, sU, sU, sU] []))
        refine og (fun _ hr => XS.iload X95.here hx rfl (hb hby at_371) rfl (XS.bipush X95.here hx rfl (hb hby at_373) hr)) ?_
        show oG p e below _ (T95.setTop (mkF m 375 #[sJ x0, sS, sI x1, sI x2, sI x3, sI nI_, sI ca_, sI cb_, sI cc_, sR b1, sR b5, sR b13, sR b22, sR rJ_, sR bJ_, sI tt_, sI d_, sI 1, sI nd_, sU, sU, sU, sU, sU, sU] [(.int 19), (.int nd_)]))
        rcases Classical.em (nd_ < (19 : Int32)) with c98 | c98
        · skip
          refine og (fun _ hr => XS.icmpNo X95.here hx rfl (hb hby at_375) rfl (tlt c98).2.1 hr) ?_
          show oG p e below _ (T95.setTop (mkF m 378 #[sJ x0, sS, sI x1, sI x2, sI x3, sI nI_, sI ca_, sI cb_, sI cc_, sR b1, sR b5, sR b13, sR b22, sR rJ_, sR bJ_, sI tt_, sI d_, sI 1, sI nd_, sU, sU, sU, sU, sU, sU] []))
          refine og (fun _ hr => XS.lloadN X95.here hx rfl (hb hby at_378) rfl (XS.iload X95.here hx rfl (hb hby at_379) rfl hr)) ?_
          show oG p e below _ (T95.setTop (mkF m 381 #[sJ x0, sS, sI x1, sI x2, sI x3, sI nI_, sI ca_, sI cb_, sI cc_, sR b1, sR b5, sR b13, sR b22, sR rJ_, sR bJ_, sI tt_, sI d_, sI 1, sI nd_, sU, sU, sU, sU, sU, sU] [(.int nd_), (.long x0)]))
          have hpk_ : (Jvm.Free.SBG.digitsL nN_) < 19 := by have q := c98; simp only [Int32.lt_iff_toInt_lt, Int32.reduceToInt] at q; omega
          have Z100 := (Nat.le_trans Z96 K95.1)
          refine own_cs X95 hx hZ hown (hw _ (own_m 204 rfl)) (hw _ (own_m 205 rfl)) (hw _ (own_m 206 rfl)) (hw _ (own_m 207 rfl)) (by decide) (rm := { frames := 0, cells := 1, slots := 19, locals := 0 }) (rm_pow l Z a0 hw [] nd_ (Jvm.Free.SBG.digitsL nN_) T95.heap n0 Z100 hndN_ hpk_) (by decide) (W := 2) (by decide) (by decide) (by decide) rfl (by rw [hml]; rfl) (argsL := [(.int nd_)]) (lenOf own_pd26 rfl) (rest := [(.long x0)]) rfl rfl (Nat.le_of_eq rfl) (hb hby at_381) ?_
          intro _ T99 L99 X99 hQ99
          obtain ⟨rfl, N99q, K99⟩ := hQ99
          have N99 := Fr.app N95 N99q
          show oG p e below _ (T99.setTop (mkF m 384 #[sJ x0, sS, sI x1, sI x2, sI x3, sI nI_, sI ca_, sI cb_, sI cc_, sR b1, sR b5, sR b13, sR b22, sR rJ_, sR bJ_, sI tt_, sI d_, sI 1, sI nd_, sU, sU, sU, sU, sU, sU] [(.long (own_pw (Jvm.Free.SBG.digitsL nN_))), (.long x0)]))
          refine og (fun _ hr => XS.lneg X99.here hx rfl (hb hby at_384) rfl (XS.lcmp X99.here hx rfl (hb hby at_385) rfl hr)) ?_
          show oG p e below _ (T99.setTop (mkF m 386 #[sJ x0, sS, sI x1, sI x2, sI x3, sI nI_, sI ca_, sI cb_, sI cc_, sR b1, sR b5, sR b13, sR b22, sR rJ_, sR bJ_, sI tt_, sI d_, sI 1, sI nd_, sU, sU, sU, sU, sU, sU] [(.int (lcmpW x0 (-(own_pw (Jvm.Free.SBG.digitsL nN_)))))]))
          have hk101 : (0 : Int32) < (lcmpW x0 (-(own_pw (Jvm.Free.SBG.digitsL nN_)))) := by
            have q := c_lcmp x0 (-(own_pw (Jvm.Free.SBG.digitsL nN_)))
            have e := own_pw_v (Jvm.Free.SBG.digitsL nN_) hpk_
            have p1 : 0 < 10 ^ (Jvm.Free.SBG.digitsL nN_) := Nat.pow_pos (by decide)
            have g := c_lneg (own_pw (Jvm.Free.SBG.digitsL nN_))
            have g2 := rng64 (-(own_pw (Jvm.Free.SBG.digitsL nN_)))
            have g3 := rng64 (own_pw (Jvm.Free.SBG.digitsL nN_))
            have y := hdg_.1
            simp only [Int32.lt_iff_toInt_lt, Int32.reduceToInt]
            omega
          refine og (fun _ hr => XS.ifYes X99.here hx rfl (pc0 := 386) (pc' := 391) rfl (hb hby at_386) rfl ((if0 _ _).trans (tlt hk101).2.2.1) (by decide) (by decide) hr) ?_
          show oG p e below _ (T99.setTop (mkF m 391 #[sJ x0, sS, sI x1, sI x2, sI x3, sI nI_, sI ca_, sI cb_, sI cc_, sR b1, sR b5, sR b13, sR b22, sR rJ_, sR bJ_, sI tt_, sI d_, sI 1, sI nd_, sU, sU, sU, sU, sU, sU] []))
          exact jH_ T99 _ T99.heap (X99.mono (by decide) (by decide)) N99 rfl (((Keep.refl _ _).trans K95 all0).trans K99 all0)
        refine og (fun _ hr => XS.icmpYes X95.here hx rfl (pc0 := 375) (pc' := 391) rfl (hb hby at_375) rfl (flt c98).2.1 (by decide) (by decide) hr) ?_
        show oG p e below _ (T95.setTop (mkF m 391 #[sJ x0, sS, sI x1, sI x2, sI x3, sI nI_, sI ca_, sI cb_, sI cc_, sR b1, sR b5, sR b13, sR b22, sR rJ_, sR bJ_, sI tt_, sI d_, sI 1, sI nd_, sU, sU, sU, sU, sU, sU] []))
        exact jH_ T95 _ T95.heap (X95.mono (by decide) (by decide)) N95 rfl ((Keep.refl _ _).trans K95 all0)
      refine og (fun _ hr => XS.icmpYes X47.here hx rfl (pc0 := 353) (pc' := 371) rfl (hb hby at_353) rfl (flt c94).2.2.2 (by decide) (by decide) hr) ?_
      show oG p e below _ (T47.setTop (mkF m 371 #[sJ x0, sS, sI x1, sI x2, sI x3, sI nI_, sI ca_, sI cb_, sI cc_, sR b1, sR b5, sR b13, sR b22, sR rJ_, sR bJ_, sI tt_, sI d_, sI 1, sI nd_, sU, sU, sU, sU, sU, sU] []))
      refine og (fun _ hr => XS.iload X47.here hx rfl (hb hby at_371) rfl (XS.bipush X47.here hx rfl (hb hby at_373) hr)) ?_
      show oG p e below _ (T47.setTop (mkF m 375 #[sJ x0, sS, sI x1, sI x2, sI x3, sI nI_, sI ca_, sI cb_, sI cc_, sR b1, sR b5, sR b13, sR b22, sR rJ_, sR bJ_, sI tt_, sI d_, sI 1, sI nd_, sU, sU, sU, sU, sU, sU] [(.int 19), (.int nd_)]))
      rcases Classical.em (nd_ < (19 : Int32)) with c102 | c102
      · skip
        refine og (fun _ hr => XS.icmpNo X47.here hx rfl (hb hby at_375) rfl (tlt c102).2.1 hr) ?_
        show oG p e below _ (T47.setTop (mkF m 378 #[sJ x0, sS, sI x1, sI x2, sI x3, sI nI_, sI ca_, sI cb_, sI cc_, sR b1, sR b5, sR b13, sR b22, sR rJ_, sR bJ_, sI tt_, sI d_, sI 1, sI nd_, sU, sU, sU, sU, sU, sU] []))
        refine og (fun _ hr => XS.lloadN X47.here hx rfl (hb hby at_378) rfl (XS.iload X47.here hx rfl (hb hby at_379) rfl hr)) ?_
        show oG p e below _ (T47.setTop (mkF m 381 #[sJ x0, sS, sI x1, sI x2, sI x3, sI nI_, sI ca_, sI cb_, sI cc_, sR b1, sR b5, sR b13, sR b22, sR rJ_, sR bJ_, sI tt_, sI d_, sI 1, sI nd_, sU, sU, sU, sU, sU, sU] [(.int nd_), (.long x0)]))
        have hpk_ : (Jvm.Free.SBG.digitsL nN_) < 19 := by have q := c102; simp only [Int32.lt_iff_toInt_lt, Int32.reduceToInt] at q; omega
        have Z104 := (Nat.le_trans Z0 Km.1)
        refine own_cs X47 hx hZ hown (hw _ (own_m 204 rfl)) (hw _ (own_m 205 rfl)) (hw _ (own_m 206 rfl)) (hw _ (own_m 207 rfl)) (by decide) (rm := { frames := 0, cells := 1, slots := 19, locals := 0 }) (rm_pow l Z a0 hw [] nd_ (Jvm.Free.SBG.digitsL nN_) hm n0 Z104 hndN_ hpk_) (by decide) (W := 2) (by decide) (by decide) (by decide) e47 (by rw [hml]; rfl) (argsL := [(.int nd_)]) (lenOf own_pd26 rfl) (rest := [(.long x0)]) rfl rfl (Nat.le_of_eq rfl) (hb hby at_381) ?_
        intro _ T103 L103 X103 hQ103
        obtain ⟨rfl, N103q, K103⟩ := hQ103
        have N103 := Fr.app Nm N103q
        show oG p e below _ (T103.setTop (mkF m 384 #[sJ x0, sS, sI x1, sI x2, sI x3, sI nI_, sI ca_, sI cb_, sI cc_, sR b1, sR b5, sR b13, sR b22, sR rJ_, sR bJ_, sI tt_, sI d_, sI 1, sI nd_, sU, sU, sU, sU, sU, sU] [(.long (own_pw (Jvm.Free.SBG.digitsL nN_))), (.long x0)]))
        refine og (fun _ hr => XS.lneg X103.here hx rfl (hb hby at_384) rfl (XS.lcmp X103.here hx rfl (hb hby at_385) rfl hr)) ?_
        show oG p e below _ (T103.setTop (mkF m 386 #[sJ x0, sS, sI x1, sI x2, sI x3, sI nI_, sI ca_, sI cb_, sI cc_, sR b1, sR b5, sR b13, sR b22, sR rJ_, sR bJ_, sI tt_, sI d_, sI 1, sI nd_, sU, sU, sU, sU, sU, sU] [(.int (lcmpW x0 (-(own_pw (Jvm.Free.SBG.digitsL nN_)))))]))
        have hk105 : (0 : Int32) < (lcmpW x0 (-(own_pw (Jvm.Free.SBG.digitsL nN_)))) := by
          have q := c_lcmp x0 (-(own_pw (Jvm.Free.SBG.digitsL nN_)))
          have e := own_pw_v (Jvm.Free.SBG.digitsL nN_) hpk_
          have p1 : 0 < 10 ^ (Jvm.Free.SBG.digitsL nN_) := Nat.pow_pos (by decide)
          have g := c_lneg (own_pw (Jvm.Free.SBG.digitsL nN_))
          have g2 := rng64 (-(own_pw (Jvm.Free.SBG.digitsL nN_)))
          have g3 := rng64 (own_pw (Jvm.Free.SBG.digitsL nN_))
          have y := hdg_.1
          simp only [Int32.lt_iff_toInt_lt, Int32.reduceToInt]
          omega
        refine og (fun _ hr => XS.ifYes X103.here hx rfl (pc0 := 386) (pc' := 391) rfl (hb hby at_386) rfl ((if0 _ _).trans (tlt hk105).2.2.1) (by decide) (by decide) hr) ?_
        show oG p e below _ (T103.setTop (mkF m 391 #[sJ x0, sS, sI x1, sI x2, sI x3, sI nI_, sI ca_, sI cb_, sI cc_, sR b1, sR b5, sR b13, sR b22, sR rJ_, sR bJ_, sI tt_, sI d_, sI 1, sI nd_, sU, sU, sU, sU, sU, sU] []))
        exact jH_ T103 _ T103.heap (X103.mono (by decide) (by decide)) N103 rfl ((Keep.refl _ _).trans K103 all0)
      refine og (fun _ hr => XS.icmpYes X47.here hx rfl (pc0 := 375) (pc' := 391) rfl (hb hby at_375) rfl (flt c102).2.1 (by decide) (by decide) hr) ?_
      show oG p e below _ (T47.setTop (mkF m 391 #[sJ x0, sS, sI x1, sI x2, sI x3, sI nI_, sI ca_, sI cb_, sI cc_, sR b1, sR b5, sR b13, sR b22, sR rJ_, sR bJ_, sI tt_, sI d_, sI 1, sI nd_, sU, sU, sU, sU, sU, sU] []))
      exact jH_ T47 _ hm (X47.mono (by decide) (by decide)) Nm e47 (Keep.refl _ _)
    have hsg_ : (Jvm.Free.SBG.GetCharsL.sgnL x0) = 0 := by unfold Jvm.Free.SBG.GetCharsL.sgnL; rw [if_neg c34]
    have hdg_ := own_dg hn63_
    have hxp_ := (own_xp hn63_ hng_).2 c34
    generalize hdd_ : (((Int32.ofNat (7 + (Jvm.Free.SBG.digitsL nN_ + Jvm.Free.SBG.GetCharsL.sgnL x0) + ds_.length)) - (7 : Int32)) - nI_) = d_
    have hdN_ : Int32.ofNat (Jvm.Free.SBG.digitsL nN_ + Jvm.Free.SBG.GetCharsL.sgnL x0) = d_ := (own_m16 hln_ (by omega) hl3_).trans hdd_
    generalize htt_ : (Int32.ofNat (7 + (Jvm.Free.SBG.digitsL nN_ + Jvm.Free.SBG.GetCharsL.sgnL x0) + ds_.length)) = tt_
    show oG p e below _ (T32.setTop (mkF m 187 #[sJ x0, sS, sI x1, sI x2, sI x3, sI nI_, sI ca_, sI cb_, sI cc_, sR b1, sR b5, sR b13, sR b22, sR rJ_, sR bJ_, sI tt_, sI d_, sU, sU, sU, sU, sU, sU, sU, sU] []))
    refine og (fun _ hr => XS.lloadN X32.here hx rfl (hb hby at_187) rfl (XS.lconst X32.here hx rfl (hb hby at_188) (XS.lcmp X32.here hx rfl (hb hby at_189) rfl hr))) ?_
    show oG p e below _ (T32.setTop (mkF m 190 #[sJ x0, sS, sI x1, sI x2, sI x3, sI nI_, sI ca_, sI cb_, sI cc_, sR b1, sR b5, sR b13, sR b22, sR rJ_, sR bJ_, sI tt_, sI d_, sU, sU, sU, sU, sU, sU, sU, sU] [(.int (lcmpW x0 (0 : Int64)))]))
    have c106 : ¬ ((lcmpW x0 (0 : Int64)) < (0 : Int32)) := by
      have q0 := rng64 x0
      have q1 := c_lcmp x0 (0 : Int64)
      have p0 := c34
      simp only [true_implies, Int32.lt_iff_toInt_lt, ← Int32.toInt_inj, Int32.reduceToInt, Int64.lt_iff_toInt_lt, ← Int64.toInt_inj, Int64.reduceToInt] at q0 q1 p0 ⊢
      omega
    refine og (fun _ hr => XS.ifYes X32.here hx rfl (pc0 := 190) (pc' := 197) rfl (hb hby at_190) rfl ((if0 _ _).trans (flt c106).2.1) (by decide) (by decide) hr) ?_
    show oG p e below _ (T32.setTop (mkF m 197 #[sJ x0, sS, sI x1, sI x2, sI x3, sI nI_, sI ca_, sI cb_, sI cc_, sR b1, sR b5, sR b13, sR b22, sR rJ_, sR bJ_, sI tt_, sI d_, sU, sU, sU, sU, sU, sU, sU, sU] []))
    refine og (fun _ hr => XS.iconst X32.here hx rfl (hb hby at_197) (XS.istore X32.here hx rfl (hb hby at_198) rfl (l' := #[sJ x0, sS, sI x1, sI x2, sI x3, sI nI_, sI ca_, sI cb_, sI cc_, sR b1, sR b5, sR b13, sR b22, sR rJ_, sR bJ_, sI tt_, sI d_, sI 0, sU, sU, sU, sU, sU, sU, sU]) rfl (XS.iload X32.here hx rfl (hb hby at_200) rfl (XS.ifYes X32.here hx rfl (pc0 := 202) (pc' := 212) rfl (hb hby at_202) rfl ((if0 _ _).trans (teq (by decide)).1) (by decide) (by decide) (XS.iload X32.here hx rfl (hb hby at_212) rfl (XS.istore X32.here hx rfl (hb hby at_214) rfl (l' := #[sJ x0, sS, sI x1, sI x2, sI x3, sI nI_, sI ca_, sI cb_, sI cc_, sR b1, sR b5, sR b13, sR b22, sR rJ_, sR bJ_, sI tt_, sI d_, sI 0, sI d_, sU, sU, sU, sU, sU, sU]) rfl hr)))))) ?_
    show oG p e below _ (T32.setTop (mkF m 216 #[sJ x0, sS, sI x1, sI x2, sI x3, sI nI_, sI ca_, sI cb_, sI cc_, sR b1, sR b5, sR b13, sR b22, sR rJ_, sR bJ_, sI tt_, sI d_, sI 0, sI d_, sU, sU, sU, sU, sU, sU] []))
    obtain ⟨nd_, hndd_⟩ : ∃ z, d_ = z := ⟨_, rfl⟩
    have hndN_ : Int32.ofNat (Jvm.Free.SBG.digitsL nN_) = d_ := by have q := hdN_; rw [hsg_, Nat.add_zero] at q; exact q
    have hnd1_ : ¬ (d_ < (1 : Int32)) := (own_nd hndN_ hdg_.2.2.1 hdg_.2.2.2).1
    have hnd2_ : ¬ ((19 : Int32) < d_) := (own_nd hndN_ hdg_.2.2.1 hdg_.2.2.2).2.1
    have hndt_ : d_.toInt = (Jvm.Free.SBG.digitsL nN_) := (own_nd hndN_ hdg_.2.2.1 hdg_.2.2.2).2.2
    show oG p e below _ (T32.setTop (mkF m 216 #[sJ x0, sS, sI x1, sI x2, sI x3, sI nI_, sI ca_, sI cb_, sI cc_, sR b1, sR b5, sR b13, sR b22, sR rJ_, sR bJ_, sI tt_, sI d_, sI 0, sI d_, sU, sU, sU, sU, sU, sU] []))
    refine og (fun _ hr => XS.iload X32.here hx rfl (hb hby at_216) rfl (XS.iconst X32.here hx rfl (hb hby at_218) hr)) ?_
    show oG p e below _ (T32.setTop (mkF m 219 #[sJ x0, sS, sI x1, sI x2, sI x3, sI nI_, sI ca_, sI cb_, sI cc_, sR b1, sR b5, sR b13, sR b22, sR rJ_, sR bJ_, sI tt_, sI d_, sI 0, sI d_, sU, sU, sU, sU, sU, sU] [(.int 1), (.int d_)]))
    refine og (fun _ hr => XS.icmpNo X32.here hx rfl (hb hby at_219) rfl (flt hnd1_).1 hr) ?_
    show oG p e below _ (T32.setTop (mkF m 222 #[sJ x0, sS, sI x1, sI x2, sI x3, sI nI_, sI ca_, sI cb_, sI cc_, sR b1, sR b5, sR b13, sR b22, sR rJ_, sR bJ_, sI tt_, sI d_, sI 0, sI d_, sU, sU, sU, sU, sU, sU] []))
    refine og (fun _ hr => XS.iload X32.here hx rfl (hb hby at_222) rfl (XS.bipush X32.here hx rfl (hb hby at_224) hr)) ?_
    show oG p e below _ (T32.setTop (mkF m 226 #[sJ x0, sS, sI x1, sI x2, sI x3, sI nI_, sI ca_, sI cb_, sI cc_, sR b1, sR b5, sR b13, sR b22, sR rJ_, sR bJ_, sI tt_, sI d_, sI 0, sI d_, sU, sU, sU, sU, sU, sU] [(.int 19), (.int d_)]))
    refine og (fun _ hr => XS.icmpYes X32.here hx rfl (pc0 := 226) (pc' := 231) rfl (hb hby at_226) rfl (flt hnd2_).2.2.2 (by decide) (by decide) hr) ?_
    show oG p e below _ (T32.setTop (mkF m 231 #[sJ x0, sS, sI x1, sI x2, sI x3, sI nI_, sI ca_, sI cb_, sI cc_, sR b1, sR b5, sR b13, sR b22, sR rJ_, sR bJ_, sI tt_, sI d_, sI 0, sI d_, sU, sU, sU, sU, sU, sU] []))
    refine og (fun _ hr => XS.aload X32.here hx rfl (hb hby at_231) rfl rfl (XS.iconst X32.here hx rfl (hb hby at_233) hr)) ?_
    show oG p e below _ (T32.setTop (mkF m 234 #[sJ x0, sS, sI x1, sI x2, sI x3, sI nI_, sI ca_, sI cb_, sI cc_, sR b1, sR b5, sR b13, sR b22, sR rJ_, sR bJ_, sI tt_, sI d_, sI 0, sI d_, sU, sU, sU, sU, sU, sU] [(.int 0), (.ref bJ_)]))
    have f108 := (own_sta_keep S_SIOOBE_FORMATTER Km all0)
    refine own_chs X32 hx hZ hown hw (hw _ (own_m 182 rfl)) (hw _ (own_m 183 rfl)) (hw _ (own_m 185 rfl)) (hw _ (own_m 184 rfl)) (hw _ (own_m 2 rfl)) (own_msg nN_ x0 ds_) 0 fE_ fV_ fC_ fA_ (Or.inl ⟨rfl, rfl, rfl, fun c hc => (hmt_ c hc).2⟩) (own_up hmt_) f33 hs_COMPACT_STRINGS f108 hv_SIOOBE_FORMATTER (by rw [own_mlen]; omega) (by rw [own_mlen]; omega) rfl (by decide) (W := 0) (by decide) (by decide) (by decide) e32 (by rw [hml]; rfl) (Nat.le_of_eq rfl) (hb hby at_234) ?_
    intro T107 X107 e107
    show oG p e below _ (T107.setTop (mkF m 237 #[sJ x0, sS, sI x1, sI x2, sI x3, sI nI_, sI ca_, sI cb_, sI cc_, sR b1, sR b5, sR b13, sR b22, sR rJ_, sR bJ_, sI tt_, sI d_, sI 0, sI d_, sU, sU, sU, sU, sU, sU] [(.int ((own_msg nN_ x0 ds_).getD 0 0))]))
    refine og (fun _ hr => XS.bipush X107.here hx rfl (hb hby at_237) hr) ?_
    show oG p e below _ (T107.setTop (mkF m 239 #[sJ x0, sS, sI x1, sI x2, sI x3, sI nI_, sI ca_, sI cb_, sI cc_, sR b1, sR b5, sR b13, sR b22, sR rJ_, sR bJ_, sI tt_, sI d_, sI 0, sI d_, sU, sU, sU, sU, sU, sU] [(.int 108), (.int ((own_msg nN_ x0 ds_).getD 0 0))]))
    have hk109 : ((own_msg nN_ x0 ds_).getD 0 0) = (108 : Int32) := own_ms_l.1
    refine og (fun _ hr => XS.icmpNo X107.here hx rfl (hb hby at_239) rfl (teq hk109).2 hr) ?_
    show oG p e below _ (T107.setTop (mkF m 242 #[sJ x0, sS, sI x1, sI x2, sI x3, sI nI_, sI ca_, sI cb_, sI cc_, sR b1, sR b5, sR b13, sR b22, sR rJ_, sR bJ_, sI tt_, sI d_, sI 0, sI d_, sU, sU, sU, sU, sU, sU] []))
    refine og (fun _ hr => XS.aload X107.here hx rfl (hb hby at_242) rfl rfl (XS.iconst X107.here hx rfl (hb hby at_244) hr)) ?_
    show oG p e below _ (T107.setTop (mkF m 245 #[sJ x0, sS, sI x1, sI x2, sI x3, sI nI_, sI ca_, sI cb_, sI cc_, sR b1, sR b5, sR b13, sR b22, sR rJ_, sR bJ_, sI tt_, sI d_, sI 0, sI d_, sU, sU, sU, sU, sU, sU] [(.int 1), (.ref bJ_)]))
    refine own_chs X107 hx hZ hown hw (hw _ (own_m 182 rfl)) (hw _ (own_m 183 rfl)) (hw _ (own_m 185 rfl)) (hw _ (own_m 184 rfl)) (hw _ (own_m 2 rfl)) (own_msg nN_ x0 ds_) 1 fE_ fV_ fC_ fA_ (Or.inl ⟨rfl, rfl, rfl, fun c hc => (hmt_ c hc).2⟩) (own_up hmt_) f33 hs_COMPACT_STRINGS f108 hv_SIOOBE_FORMATTER (by rw [own_mlen]; omega) (by rw [own_mlen]; omega) rfl (by decide) (W := 0) (by decide) (by decide) (by decide) e107 (by rw [hml]; rfl) (Nat.le_of_eq rfl) (hb hby at_245) ?_
    intro T110 X110 e110
    show oG p e below _ (T110.setTop (mkF m 248 #[sJ x0, sS, sI x1, sI x2, sI x3, sI nI_, sI ca_, sI cb_, sI cc_, sR b1, sR b5, sR b13, sR b22, sR rJ_, sR bJ_, sI tt_, sI d_, sI 0, sI d_, sU, sU, sU, sU, sU, sU] [(.int ((own_msg nN_ x0 ds_).getD 1 0))]))
    refine og (fun _ hr => XS.bipush X110.here hx rfl (hb hby at_248) hr) ?_
    show oG p e below _ (T110.setTop (mkF m 250 #[sJ x0, sS, sI x1, sI x2, sI x3, sI nI_, sI ca_, sI cb_, sI cc_, sR b1, sR b5, sR b13, sR b22, sR rJ_, sR bJ_, sI tt_, sI d_, sI 0, sI d_, sU, sU, sU, sU, sU, sU] [(.int 105), (.int ((own_msg nN_ x0 ds_).getD 1 0))]))
    have hk111 : ((own_msg nN_ x0 ds_).getD 1 0) = (105 : Int32) := own_ms_l.2.1
    refine og (fun _ hr => XS.icmpNo X110.here hx rfl (hb hby at_250) rfl (teq hk111).2 hr) ?_
    show oG p e below _ (T110.setTop (mkF m 253 #[sJ x0, sS, sI x1, sI x2, sI x3, sI nI_, sI ca_, sI cb_, sI cc_, sR b1, sR b5, sR b13, sR b22, sR rJ_, sR bJ_, sI tt_, sI d_, sI 0, sI d_, sU, sU, sU, sU, sU, sU] []))
    refine og (fun _ hr => XS.aload X110.here hx rfl (hb hby at_253) rfl rfl (XS.iconst X110.here hx rfl (hb hby at_255) hr)) ?_
    show oG p e below _ (T110.setTop (mkF m 256 #[sJ x0, sS, sI x1, sI x2, sI x3, sI nI_, sI ca_, sI cb_, sI cc_, sR b1, sR b5, sR b13, sR b22, sR rJ_, sR bJ_, sI tt_, sI d_, sI 0, sI d_, sU, sU, sU, sU, sU, sU] [(.int 2), (.ref bJ_)]))
    refine own_chs X110 hx hZ hown hw (hw _ (own_m 182 rfl)) (hw _ (own_m 183 rfl)) (hw _ (own_m 185 rfl)) (hw _ (own_m 184 rfl)) (hw _ (own_m 2 rfl)) (own_msg nN_ x0 ds_) 2 fE_ fV_ fC_ fA_ (Or.inl ⟨rfl, rfl, rfl, fun c hc => (hmt_ c hc).2⟩) (own_up hmt_) f33 hs_COMPACT_STRINGS f108 hv_SIOOBE_FORMATTER (by rw [own_mlen]; omega) (by rw [own_mlen]; omega) rfl (by decide) (W := 0) (by decide) (by decide) (by decide) e110 (by rw [hml]; rfl) (Nat.le_of_eq rfl) (hb hby at_256) ?_
    intro T112 X112 e112
    show oG p e below _ (T112.setTop (mkF m 259 #[sJ x0, sS, sI x1, sI x2, sI x3, sI nI_, sI ca_, sI cb_, sI cc_, sR b1, sR b5, sR b13, sR b22, sR rJ_, sR bJ_, sI tt_, sI d_, sI 0, sI d_, sU, sU, sU, sU, sU, sU] [(.int ((own_msg nN_ x0 ds_).getD 2 0))]))
    refine og (fun _ hr => XS.bipush X112.here hx rfl (hb hby at_259) hr) ?_
    show oG p e below _ (T112.setTop (mkF m 261 #[sJ x0, sS, sI x1, sI x2, sI x3, sI nI_, sI ca_, sI cb_, sI cc_, sR b1, sR b5, sR b13, sR b22, sR rJ_, sR bJ_, sI tt_, sI d_, sI 0, sI d_, sU, sU, sU, sU, sU, sU] [(.int 110), (.int ((own_msg nN_ x0 ds_).getD 2 0))]))
    have hk113 : ((own_msg nN_ x0 ds_).getD 2 0) = (110 : Int32) := own_ms_l.2.2.1
    refine og (fun _ hr => XS.icmpNo X112.here hx rfl (hb hby at_261) rfl (teq hk113).2 hr) ?_
    show oG p e below _ (T112.setTop (mkF m 264 #[sJ x0, sS, sI x1, sI x2, sI x3, sI nI_, sI ca_, sI cb_, sI cc_, sR b1, sR b5, sR b13, sR b22, sR rJ_, sR bJ_, sI tt_, sI d_, sI 0, sI d_, sU, sU, sU, sU, sU, sU] []))
    refine og (fun _ hr => XS.aload X112.here hx rfl (hb hby at_264) rfl rfl (XS.iconst X112.here hx rfl (hb hby at_266) hr)) ?_
    show oG p e below _ (T112.setTop (mkF m 267 #[sJ x0, sS, sI x1, sI x2, sI x3, sI nI_, sI ca_, sI cb_, sI cc_, sR b1, sR b5, sR b13, sR b22, sR rJ_, sR bJ_, sI tt_, sI d_, sI 0, sI d_, sU, sU, sU, sU, sU, sU] [(.int 3), (.ref bJ_)]))
    refine own_chs X112 hx hZ hown hw (hw _ (own_m 182 rfl)) (hw _ (own_m 183 rfl)) (hw _ (own_m 185 rfl)) (hw _ (own_m 184 rfl)) (hw _ (own_m 2 rfl)) (own_msg nN_ x0 ds_) 3 fE_ fV_ fC_ fA_ (Or.inl ⟨rfl, rfl, rfl, fun c hc => (hmt_ c hc).2⟩) (own_up hmt_) f33 hs_COMPACT_STRINGS f108 hv_SIOOBE_FORMATTER (by rw [own_mlen]; omega) (by rw [own_mlen]; omega) rfl (by decide) (W := 0) (by decide) (by decide) (by decide) e112 (by rw [hml]; rfl) (Nat.le_of_eq rfl) (hb hby at_267) ?_
    intro T114 X114 e114
    show oG p e below _ (T114.setTop (mkF m 270 #[sJ x0, sS, sI x1, sI x2, sI x3, sI nI_, sI ca_, sI cb_, sI cc_, sR b1, sR b5, sR b13, sR b22, sR rJ_, sR bJ_, sI tt_, sI d_, sI 0, sI d_, sU, sU, sU, sU, sU, sU] [(.int ((own_msg nN_ x0 ds_).getD 3 0))]))
    refine og (fun _ hr => XS.bipush X114.here hx rfl (hb hby at_270) hr) ?_
    show oG p e below _ (T114.setTop (mkF m 272 #[sJ x0, sS, sI x1, sI x2, sI x3, sI nI_, sI ca_, sI cb_, sI cc_, sR b1, sR b5, sR b13, sR b22, sR rJ_, sR bJ_, sI tt_, sI d_, sI 0, sI d_, sU, sU, sU, sU, sU, sU] [(.int 101), (.int ((own_msg nN_ x0 ds_).getD 3 0))]))
    have hk115 : ((own_msg nN_ x0 ds_).getD 3 0) = (101 : Int32) := own_ms_l.2.2.2.1
    refine og (fun _ hr => XS.icmpNo X114.here hx rfl (hb hby at_272) rfl (teq hk115).2 hr) ?_
    show oG p e below _ (T114.setTop (mkF m 275 #[sJ x0, sS, sI x1, sI x2, sI x3, sI nI_, sI ca_, sI cb_, sI cc_, sR b1, sR b5, sR b13, sR b22, sR rJ_, sR bJ_, sI tt_, sI d_, sI 0, sI d_, sU, sU, sU, sU, sU, sU] []))
    refine og (fun _ hr => XS.aload X114.here hx rfl (hb hby at_275) rfl rfl (XS.iconst X114.here hx rfl (hb hby at_277) hr)) ?_
    show oG p e below _ (T114.setTop (mkF m 278 #[sJ x0, sS, sI x1, sI x2, sI x3, sI nI_, sI ca_, sI cb_, sI cc_, sR b1, sR b5, sR b13, sR b22, sR rJ_, sR bJ_, sI tt_, sI d_, sI 0, sI d_, sU, sU, sU, sU, sU, sU] [(.int 4), (.ref bJ_)]))
    refine own_chs X114 hx hZ hown hw (hw _ (own_m 182 rfl)) (hw _ (own_m 183 rfl)) (hw _ (own_m 185 rfl)) (hw _ (own_m 184 rfl)) (hw _ (own_m 2 rfl)) (own_msg nN_ x0 ds_) 4 fE_ fV_ fC_ fA_ (Or.inl ⟨rfl, rfl, rfl, fun c hc => (hmt_ c hc).2⟩) (own_up hmt_) f33 hs_COMPACT_STRINGS f108 hv_SIOOBE_FORMATTER (by rw [own_mlen]; omega) (by rw [own_mlen]; omega) rfl (by decide) (W := 0) (by decide) (by decide) (by decide) e114 (by rw [hml]; rfl) (Nat.le_of_eq rfl) (hb hby at_278) ?_
    intro T116 X116 e116
    show oG p e below _ (T116.setTop (mkF m 281 #[sJ x0, sS, sI x1, sI x2, sI x3, sI nI_, sI ca_, sI cb_, sI cc_, sR b1, sR b5, sR b13, sR b22, sR rJ_, sR bJ_, sI tt_, sI d_, sI 0, sI d_, sU, sU, sU, sU, sU, sU] [(.int ((own_msg nN_ x0 ds_).getD 4 0))]))
    refine og (fun _ hr => XS.bipush X116.here hx rfl (hb hby at_281) hr) ?_
    show oG p e below _ (T116.setTop (mkF m 283 #[sJ x0, sS, sI x1, sI x2, sI x3, sI nI_, sI ca_, sI cb_, sI cc_, sR b1, sR b5, sR b13, sR b22, sR rJ_, sR bJ_, sI tt_, sI d_, sI 0, sI d_, sU, sU, sU, sU, sU, sU] [(.int 32), (.int ((own_msg nN_ x0 ds_).getD 4 0))]))
    have hk117 : ((own_msg nN_ x0 ds_).getD 4 0) = (32 : Int32) := own_ms_l.2.2.2.2
    refine og (fun _ hr => XS.icmpYes X116.here hx rfl (pc0 := 283) (pc' := 288) rfl (hb hby at_283) rfl (teq hk117).1 (by decide) (by decide) hr) ?_
    show oG p e below _ (T116.setTop (mkF m 288 #[sJ x0, sS, sI x1, sI x2, sI x3, sI nI_, sI ca_, sI cb_, sI cc_, sR b1, sR b5, sR b13, sR b22, sR rJ_, sR bJ_, sI tt_, sI d_, sI 0, sI d_, sU, sU, sU, sU, sU, sU] []))
    refine og (fun _ hr => XS.iload X116.here hx rfl (hb hby at_288) rfl (XS.ifYes X116.here hx rfl (pc0 := 290) (pc' := 306) rfl (hb hby at_290) rfl ((if0 _ _).trans (teq (by decide)).1) (by decide) (by decide) hr)) ?_
    show oG p e below _ (T116.setTop (mkF m 306 #[sJ x0, sS, sI x1, sI x2, sI x3, sI nI_, sI ca_, sI cb_, sI cc_, sR b1, sR b5, sR b13, sR b22, sR rJ_, sR bJ_, sI tt_, sI d_, sI 0, sI d_, sU, sU, sU, sU, sU, sU] []))
    have jH_ : ∀ (Tj : State) (Lj : List Loc) (hj : Heap), Stand p l e room_1 (s.setVm Tm.vm) m #[(.long x0), (.int x1), (.int x2), (.int x3)] below meth c Tj Lj 21 192 → Fr n0 Lj → Tj.heap = hj → Keep hm hj [] → oG p e below (own_KW Z own_EL s (Q_law Z h0 n0) room_1.cells room_1.slots) (Tj.setTop (mkF m 391 #[sJ x0, sS, sI x1, sI x2, sI x3, sI nI_, sI ca_, sI cb_, sI cc_, sR b1, sR b5, sR b13, sR b22, sR rJ_, sR bJ_, sI tt_, sI d_, sI 0, sI d_, sU, sU, sU, sU, sU, sU] [])) := by
      intro Tj Lj hj Xj Nj ej Kj
      show oG p e below _ (Tj.setTop (mkF m 391 #[sJ x0, sS, sI x1, sI x2, sI x3, sI nI_, sI ca_, sI cb_, sI cc_, sR b1, sR b5, sR b13, sR b22, sR rJ_, sR bJ_, sI tt_, sI d_, sI 0, sI d_, sU, sU, sU, sU, sU, sU] []))
      refine og (fun _ hr => XS.iload Xj.here hx rfl (hb hby at_391) rfl (XS.ifYes Xj.here hx rfl (pc0 := 393) (pc' := 401) rfl (hb hby at_393) rfl ((if0 _ _).trans (teq (by decide)).1) (by decide) (by decide) (XS.iconst Xj.here hx rfl (hb hby at_401) (XS.istore Xj.here hx rfl (hb hby at_402) rfl (l' := #[sJ x0, sS, sI x1, sI x2, sI x3, sI nI_, sI ca_, sI cb_, sI cc_, sR b1, sR b5, sR b13, sR b22, sR rJ_, sR bJ_, sI tt_, sI d_, sI 0, sI d_, sI 5, sU, sU, sU, sU, sU]) rfl hr)))) ?_
      show oG p e below _ (Tj.setTop (mkF m 404 #[sJ x0, sS, sI x1, sI x2, sI x3, sI nI_, sI ca_, sI cb_, sI cc_, sR b1, sR b5, sR b13, sR b22, sR rJ_, sR bJ_, sI tt_, sI d_, sI 0, sI d_, sI 5, sU, sU, sU, sU, sU] []))
      have hmk_ := own_msk x3
      refine og (fun _ hr => XS.iload Xj.here hx rfl (hb hby at_404) rfl hr) ?_
      show oG p e below _ (Tj.setTop (mkF m 406 #[sJ x0, sS, sI x1, sI x2, sI x3, sI nI_, sI ca_, sI cb_, sI cc_, sR b1, sR b5, sR b13, sR b22, sR rJ_, sR bJ_, sI tt_, sI d_, sI 0, sI d_, sI 5, sU, sU, sU, sU, sU] [(.int x3)]))
      refine og (Xj.ldcInt hx hown (mvT hZ (hw _ (own_m 227 rfl))) rfl (hb hby at_406)) ?_
      show oG p e below _ (Tj.setTop (mkF m 408 #[sJ x0, sS, sI x1, sI x2, sI x3, sI nI_, sI ca_, sI cb_, sI cc_, sR b1, sR b5, sR b13, sR b22, sR rJ_, sR bJ_, sI tt_, sI d_, sI 0, sI d_, sI 5, sU, sU, sU, sU, sU] [(.int 2147483647), (.int x3)]))
      refine og (fun _ hr => XS.iand Xj.here hx rfl (hb hby at_408) rfl (XS.iload Xj.here hx rfl (hb hby at_409) rfl hr)) ?_
      show oG p e below _ (Tj.setTop (mkF m 411 #[sJ x0, sS, sI x1, sI x2, sI x3, sI nI_, sI ca_, sI cb_, sI cc_, sR b1, sR b5, sR b13, sR b22, sR rJ_, sR bJ_, sI tt_, sI d_, sI 0, sI d_, sI 5, sU, sU, sU, sU, sU] [(.int d_), (.int (x3 &&& (2147483647 : Int32)))]))
      have nz118 : d_ ≠ (0 : Int32) := by exact (own_jr hmk_ hnd1_).2.2
      refine og (fun _ hr => iremM Xj hx rfl (hb hby at_411) rfl nz118 hr) ?_
      show oG p e below _ (Tj.setTop (mkF m 412 #[sJ x0, sS, sI x1, sI x2, sI x3, sI nI_, sI ca_, sI cb_, sI cc_, sR b1, sR b5, sR b13, sR b22, sR rJ_, sR bJ_, sI tt_, sI d_, sI 0, sI d_, sI 5, sU, sU, sU, sU, sU] [(.int ((x3 &&& (2147483647 : Int32)) % d_))]))
      refine og (fun _ hr => XS.istore Xj.here hx rfl (hb hby at_412) rfl (l' := #[sJ x0, sS, sI x1, sI x2, sI x3, sI nI_, sI ca_, sI cb_, sI cc_, sR b1, sR b5, sR b13, sR b22, sR rJ_, sR bJ_, sI tt_, sI d_, sI 0, sI d_, sI 5, sI ((x3 &&& (2147483647 : Int32)) % d_), sU, sU, sU, sU]) rfl hr) ?_
      show oG p e below _ (Tj.setTop (mkF m 414 #[sJ x0, sS, sI x1, sI x2, sI x3, sI nI_, sI ca_, sI cb_, sI cc_, sR b1, sR b5, sR b13, sR b22, sR rJ_, sR bJ_, sI tt_, sI d_, sI 0, sI d_, sI 5, sI ((x3 &&& (2147483647 : Int32)) % d_), sU, sU, sU, sU] []))
      generalize hjd_ : ((x3 &&& (2147483647 : Int32)) % d_) = j_
      have hjr_ := own_jr hmk_ hnd1_
      rw [hjd_] at hjr_
      have hjN_ := own_jN hjr_.1 hjr_.2.1 hndN_ hdg_.2.2.2
      show oG p e below _ (Tj.setTop (mkF m 414 #[sJ x0, sS, sI x1, sI x2, sI x3, sI nI_, sI ca_, sI cb_, sI cc_, sR b1, sR b5, sR b13, sR b22, sR rJ_, sR bJ_, sI tt_, sI d_, sI 0, sI d_, sI 5, sI j_, sU, sU, sU, sU] []))
      refine og (fun _ hr => XS.lloadN Xj.here hx rfl (hb hby at_414) rfl (XS.iload Xj.here hx rfl (hb hby at_415) rfl (XS.iconst Xj.here hx rfl (hb hby at_417) (XS.isub Xj.here hx rfl (hb hby at_418) rfl (XS.iload Xj.here hx rfl (hb hby at_419) rfl (XS.isub Xj.here hx rfl (hb hby at_421) rfl hr)))))) ?_
      show oG p e below _ (Tj.setTop (mkF m 422 #[sJ x0, sS, sI x1, sI x2, sI x3, sI nI_, sI ca_, sI cb_, sI cc_, sR b1, sR b5, sR b13, sR b22, sR rJ_, sR bJ_, sI tt_, sI d_, sI 0, sI d_, sI 5, sI j_, sU, sU, sU, sU] [(.int ((d_ - (1 : Int32)) - j_)), (.long x0)]))
      have hpk_ : ((Jvm.Free.SBG.digitsL nN_) - 1 - j_.toNatClampNeg) < 19 := by omega
      have Z120 := (Nat.le_trans (Nat.le_trans Z0 Km.1) Kj.1)
      refine own_cs Xj hx hZ hown (hw _ (own_m 204 rfl)) (hw _ (own_m 205 rfl)) (hw _ (own_m 206 rfl)) (hw _ (own_m 207 rfl)) (by decide) (rm := { frames := 0, cells := 1, slots := 19, locals := 0 }) (rm_pow l Z a0 hw [] ((d_ - (1 : Int32)) - j_) ((Jvm.Free.SBG.digitsL nN_) - 1 - j_.toNatClampNeg) hj n0 Z120 (own_m20 hndN_ hjN_.1 hjN_.2 (by omega)) hpk_) (by decide) (W := 2) (by decide) (by decide) (by decide) ej (by rw [hml]; rfl) (argsL := [(.int ((d_ - (1 : Int32)) - j_))]) (lenOf own_pd26 rfl) (rest := [(.long x0)]) rfl rfl (Nat.le_of_eq rfl) (hb hby at_422) ?_
      intro _ T119 L119 X119 hQ119
      obtain ⟨rfl, N119q, K119⟩ := hQ119
      have N119 := Fr.app Nj N119q
      show oG p e below _ (T119.setTop (mkF m 425 #[sJ x0, sS, sI x1, sI x2, sI x3, sI nI_, sI ca_, sI cb_, sI cc_, sR b1, sR b5, sR b13, sR b22, sR rJ_, sR bJ_, sI tt_, sI d_, sI 0, sI d_, sI 5, sI j_, sU, sU, sU, sU] [(.long (own_pw ((Jvm.Free.SBG.digitsL nN_) - 1 - j_.toNatClampNeg))), (.long x0)]))
      have nz121 : (own_pw ((Jvm.Free.SBG.digitsL nN_) - 1 - j_.toNatClampNeg)) ≠ (0 : Int64) := by exact own_pwz _ hpk_
      refine og (fun _ hr => XS.ldiv X119.here hx rfl (hb hby at_425) rfl nz121 hr) ?_
      show oG p e below _ (T119.setTop (mkF m 426 #[sJ x0, sS, sI x1, sI x2, sI x3, sI nI_, sI ca_, sI cb_, sI cc_, sR b1, sR b5, sR b13, sR b22, sR rJ_, sR bJ_, sI tt_, sI d_, sI 0, sI d_, sI 5, sI j_, sU, sU, sU, sU] [(.long (x0 / (own_pw ((Jvm.Free.SBG.digitsL nN_) - 1 - j_.toNatClampNeg))))]))
      refine og (X119.ldc2Long hx hown (mvT hZ (hw _ (own_m 209 rfl))) rfl (hb hby at_426)) ?_
      show oG p e below _ (T119.setTop (mkF m 429 #[sJ x0, sS, sI x1, sI x2, sI x3, sI nI_, sI ca_, sI cb_, sI cc_, sR b1, sR b5, sR b13, sR b22, sR rJ_, sR bJ_, sI tt_, sI d_, sI 0, sI d_, sI 5, sI j_, sU, sU, sU, sU] [(.long (10 : Int64)), (.long (x0 / (own_pw ((Jvm.Free.SBG.digitsL nN_) - 1 - j_.toNatClampNeg))))]))
      have nz122 : (10 : Int64) ≠ (0 : Int64) := by decide
      refine og (fun _ hr => XS.lrem X119.here hx rfl (hb hby at_429) rfl nz122 hr) ?_
      show oG p e below _ (T119.setTop (mkF m 430 #[sJ x0, sS, sI x1, sI x2, sI x3, sI nI_, sI ca_, sI cb_, sI cc_, sR b1, sR b5, sR b13, sR b22, sR rJ_, sR bJ_, sI tt_, sI d_, sI 0, sI d_, sI 5, sI j_, sU, sU, sU, sU] [(.long ((x0 / (own_pw ((Jvm.Free.SBG.digitsL nN_) - 1 - j_.toNatClampNeg))) - ((x0 / (own_pw ((Jvm.Free.SBG.digitsL nN_) - 1 - j_.toNatClampNeg))) / (10 : Int64)) * (10 : Int64)))]))
      refine og (fun _ hr => XS.lstore X119.here hx rfl (hb hby at_430) rfl (l' := #[sJ x0, sS, sI x1, sI x2, sI x3, sI nI_, sI ca_, sI cb_, sI cc_, sR b1, sR b5, sR b13, sR b22, sR rJ_, sR bJ_, sI tt_, sI d_, sI 0, sI d_, sI 5, sI j_, .val (.long ((x0 / (own_pw ((Jvm.Free.SBG.digitsL nN_) - 1 - j_.toNatClampNeg))) - ((x0 / (own_pw ((Jvm.Free.SBG.digitsL nN_) - 1 - j_.toNatClampNeg))) / (10 : Int64)) * (10 : Int64))), sS, sU, sU]) rfl hr) ?_
      show oG p e below _ (T119.setTop (mkF m 432 #[sJ x0, sS, sI x1, sI x2, sI x3, sI nI_, sI ca_, sI cb_, sI cc_, sR b1, sR b5, sR b13, sR b22, sR rJ_, sR bJ_, sI tt_, sI d_, sI 0, sI d_, sI 5, sI j_, .val (.long ((x0 / (own_pw ((Jvm.Free.SBG.digitsL nN_) - 1 - j_.toNatClampNeg))) - ((x0 / (own_pw ((Jvm.Free.SBG.digitsL nN_) - 1 - j_.toNatClampNeg))) / (10 : Int64)) * (10 : Int64))), sS, sU, sU] []))
      generalize hqv_ : ((x0 / (own_pw ((Jvm.Free.SBG.digitsL nN_) - 1 - j_.toNatClampNeg))) - ((x0 / (own_pw ((Jvm.Free.SBG.digitsL nN_) - 1 - j_.toNatClampNeg))) / (10 : Int64)) * (10 : Int64)) = qv_
      show oG p e below _ (T119.setTop (mkF m 432 #[sJ x0, sS, sI x1, sI x2, sI x3, sI nI_, sI ca_, sI cb_, sI cc_, sR b1, sR b5, sR b13, sR b22, sR rJ_, sR bJ_, sI tt_, sI d_, sI 0, sI d_, sI 5, sI j_, sJ qv_, sS, sU, sU] []))
      refine og (fun _ hr => XS.iload X119.here hx rfl (hb hby at_432) rfl (XS.ifYes X119.here hx rfl (pc0 := 434) (pc' := 443) rfl (hb hby at_434) rfl ((if0 _ _).trans (teq (by decide)).1) (by decide) (by decide) (XS.lload X119.here hx rfl (hb hby at_443) rfl (XS.lstore X119.here hx rfl (hb hby at_445) rfl (l' := #[sJ x0, sS, sI x1, sI x2, sI x3, sI nI_, sI ca_, sI cb_, sI cc_, sR b1, sR b5, sR b13, sR b22, sR rJ_, sR bJ_, sI tt_, sI d_, sI 0, sI d_, sI 5, sI j_, sJ qv_, sS, sJ qv_, sS]) rfl (XS.aload X119.here hx rfl (hb hby at_447) rfl rfl (XS.iload X119.here hx rfl (hb hby at_449) rfl (XS.iload X119.here hx rfl (hb hby at_451) rfl (XS.iadd X119.here hx rfl (hb hby at_453) rfl hr)))))))) ?_
      show oG p e below _ (T119.setTop (mkF m 454 #[sJ x0, sS, sI x1, sI x2, sI x3, sI nI_, sI ca_, sI cb_, sI cc_, sR b1, sR b5, sR b13, sR b22, sR rJ_, sR bJ_, sI tt_, sI d_, sI 0, sI d_, sI 5, sI j_, sJ qv_, sS, sJ qv_, sS] [(.int ((5 : Int32) + j_)), (.ref bJ_)]))
      have f124 := ((fE_.keep Kj).keep K119)
      have f125 := ((fV_.keep Kj nin0).keep K119 nin0)
      have f126 := ((fC_.keep Kj nin0).keep K119 nin0)
      have f127 := ((fA_.keep Kj nin0).keep K119 nin0)
      have f128 := (own_sta_keep (own_sta_keep f33 Kj all0) K119 all0)
      have f129 := (own_sta_keep (own_sta_keep f108 Kj all0) K119 all0)
      refine own_chs X119 hx hZ hown hw (hw _ (own_m 182 rfl)) (hw _ (own_m 183 rfl)) (hw _ (own_m 185 rfl)) (hw _ (own_m 184 rfl)) (hw _ (own_m 2 rfl)) (own_msg nN_ x0 ds_) (5 + (0 + j_.toNatClampNeg)) f124 f125 f126 f127 (Or.inl ⟨rfl, rfl, rfl, fun c hc => (hmt_ c hc).2⟩) (own_up hmt_) f128 hs_COMPACT_STRINGS f129 hv_SIOOBE_FORMATTER (by rw [own_mlen]; omega) (by rw [own_mlen]; omega) (by rw [show 5 + (0 + j_.toNatClampNeg) = 5 + j_.toNatClampNeg from by omega]; exact (own_add (a := 5) rfl hjN_.1).symm) (by decide) (W := 0) (by decide) (by decide) (by decide) rfl (by rw [hml]; rfl) (Nat.le_of_eq rfl) (hb hby at_454) ?_
      intro T123 X123 e123
      show oG p e below _ (T123.setTop (mkF m 457 #[sJ x0, sS, sI x1, sI x2, sI x3, sI nI_, sI ca_, sI cb_, sI cc_, sR b1, sR b5, sR b13, sR b22, sR rJ_, sR bJ_, sI tt_, sI d_, sI 0, sI d_, sI 5, sI j_, sJ qv_, sS, sJ qv_, sS] [(.int ((own_msg nN_ x0 ds_).getD (5 + (0 + j_.toNatClampNeg)) 0))]))
      refine og (fun _ hr => XS.bipush X123.here hx rfl (hb hby at_457) (XS.lload X123.here hx rfl (hb hby at_459) rfl (XS.l2i X123.here hx rfl (hb hby at_461) rfl (XS.iadd X123.here hx rfl (hb hby at_462) rfl (XS.i2c X123.here hx rfl (hb hby at_463) rfl hr))))) ?_
      show oG p e below _ (T123.setTop (mkF m 464 #[sJ x0, sS, sI x1, sI x2, sI x3, sI nI_, sI ca_, sI cb_, sI cc_, sR b1, sR b5, sR b13, sR b22, sR rJ_, sR bJ_, sI tt_, sI d_, sI 0, sI d_, sI 5, sI j_, sJ qv_, sS, sJ qv_, sS] [(.int (((48 : Int32) + (qv_.toInt32)).toUInt32.toUInt16.toUInt32.toInt32)), (.int ((own_msg nN_ x0 ds_).getD (5 + (0 + j_.toNatClampNeg)) 0))]))
      have hk130 : ((own_msg nN_ x0 ds_).getD (5 + (0 + j_.toNatClampNeg)) 0) = (((48 : Int32) + (qv_.toInt32)).toUInt32.toUInt16.toUInt32.toInt32) := by subst hqv_; exact (own_ms_d (by omega)).trans ((show (own_dec nN_ x0).getD (0 + j_.toNatClampNeg) 0 = _ from (by have q := own_dec_at (x := x0) hjN_.2; rw [hsg_] at q; exact q)).trans (own_dgP hxp_ (own_pw_v _ (by omega)) (Nat.pow_pos (by decide))).symm)
      refine og (fun _ hr => XS.icmpYes X123.here hx rfl (pc0 := 464) (pc' := 469) rfl (hb hby at_464) rfl (teq hk130).1 (by decide) (by decide) hr) ?_
      show oG p e below _ (T123.setTop (mkF m 469 #[sJ x0, sS, sI x1, sI x2, sI x3, sI nI_, sI ca_, sI cb_, sI cc_, sR b1, sR b5, sR b13, sR b22, sR rJ_, sR bJ_, sI tt_, sI d_, sI 0, sI d_, sI 5, sI j_, sJ qv_, sS, sJ qv_, sS] []))
      refine og (fun _ hr => XS.aload X123.here hx rfl (hb hby at_469) rfl rfl (XS.iconst X123.here hx rfl (hb hby at_471) (XS.iload X123.here hx rfl (hb hby at_472) rfl (XS.iadd X123.here hx rfl (hb hby at_474) rfl hr)))) ?_
      show oG p e below _ (T123.setTop (mkF m 475 #[sJ x0, sS, sI x1, sI x2, sI x3, sI nI_, sI ca_, sI cb_, sI cc_, sR b1, sR b5, sR b13, sR b22, sR rJ_, sR bJ_, sI tt_, sI d_, sI 0, sI d_, sI 5, sI j_, sJ qv_, sS, sJ qv_, sS] [(.int ((5 : Int32) + d_)), (.ref bJ_)]))
      refine own_chs X123 hx hZ hown hw (hw _ (own_m 182 rfl)) (hw _ (own_m 183 rfl)) (hw _ (own_m 185 rfl)) (hw _ (own_m 184 rfl)) (hw _ (own_m 2 rfl)) (own_msg nN_ x0 ds_) (5 + (Jvm.Free.SBG.digitsL nN_ + Jvm.Free.SBG.GetCharsL.sgnL x0) + 0) f124 f125 f126 f127 (Or.inl ⟨rfl, rfl, rfl, fun c hc => (hmt_ c hc).2⟩) (own_up hmt_) f128 hs_COMPACT_STRINGS f129 hv_SIOOBE_FORMATTER (by rw [own_mlen]; omega) (by rw [own_mlen]; omega) (by rw [show 5 + (Jvm.Free.SBG.digitsL nN_ + Jvm.Free.SBG.GetCharsL.sgnL x0) + 0 = 5 + (Jvm.Free.SBG.digitsL nN_ + Jvm.Free.SBG.GetCharsL.sgnL x0) from by omega]; exact (own_add (a := 5) rfl hdN_).symm) (by decide) (W := 0) (by decide) (by decide) (by decide) e123 (by rw [hml]; rfl) (Nat.le_of_eq rfl) (hb hby at_475) ?_
      intro T131 X131 e131
      show oG p e below _ (T131.setTop (mkF m 478 #[sJ x0, sS, sI x1, sI x2, sI x3, sI nI_, sI ca_, sI cb_, sI cc_, sR b1, sR b5, sR b13, sR b22, sR rJ_, sR bJ_, sI tt_, sI d_, sI 0, sI d_, sI 5, sI j_, sJ qv_, sS, sJ qv_, sS] [(.int ((own_msg nN_ x0 ds_).getD (5 + (Jvm.Free.SBG.digitsL nN_ + Jvm.Free.SBG.GetCharsL.sgnL x0) + 0) 0))]))
      refine og (fun _ hr => XS.bipush X131.here hx rfl (hb hby at_478) hr) ?_
      show oG p e below _ (T131.setTop (mkF m 480 #[sJ x0, sS, sI x1, sI x2, sI x3, sI nI_, sI ca_, sI cb_, sI cc_, sR b1, sR b5, sR b13, sR b22, sR rJ_, sR bJ_, sI tt_, sI d_, sI 0, sI d_, sI 5, sI j_, sJ qv_, sS, sJ qv_, sS] [(.int 58), (.int ((own_msg nN_ x0 ds_).getD (5 + (Jvm.Free.SBG.digitsL nN_ + Jvm.Free.SBG.GetCharsL.sgnL x0) + 0) 0))]))
      have hk132 : ((own_msg nN_ x0 ds_).getD (5 + (Jvm.Free.SBG.digitsL nN_ + Jvm.Free.SBG.GetCharsL.sgnL x0) + 0) 0) = (58 : Int32) := own_ms_t (by decide)
      refine og (fun _ hr => XS.icmpNo X131.here hx rfl (hb hby at_480) rfl (teq hk132).2 hr) ?_
      show oG p e below _ (T131.setTop (mkF m 483 #[sJ x0, sS, sI x1, sI x2, sI x3, sI nI_, sI ca_, sI cb_, sI cc_, sR b1, sR b5, sR b13, sR b22, sR rJ_, sR bJ_, sI tt_, sI d_, sI 0, sI d_, sI 5, sI j_, sJ qv_, sS, sJ qv_, sS] []))
      refine og (fun _ hr => XS.aload X131.here hx rfl (hb hby at_483) rfl rfl (XS.bipush X131.here hx rfl (hb hby at_485) (XS.iload X131.here hx rfl (hb hby at_487) rfl (XS.iadd X131.here hx rfl (hb hby at_489) rfl hr)))) ?_
      show oG p e below _ (T131.setTop (mkF m 490 #[sJ x0, sS, sI x1, sI x2, sI x3, sI nI_, sI ca_, sI cb_, sI cc_, sR b1, sR b5, sR b13, sR b22, sR rJ_, sR bJ_, sI tt_, sI d_, sI 0, sI d_, sI 5, sI j_, sJ qv_, sS, sJ qv_, sS] [(.int ((6 : Int32) + d_)), (.ref bJ_)]))
      refine own_chs X131 hx hZ hown hw (hw _ (own_m 182 rfl)) (hw _ (own_m 183 rfl)) (hw _ (own_m 185 rfl)) (hw _ (own_m 184 rfl)) (hw _ (own_m 2 rfl)) (own_msg nN_ x0 ds_) (5 + (Jvm.Free.SBG.digitsL nN_ + Jvm.Free.SBG.GetCharsL.sgnL x0) + 1) f124 f125 f126 f127 (Or.inl ⟨rfl, rfl, rfl, fun c hc => (hmt_ c hc).2⟩) (own_up hmt_) f128 hs_COMPACT_STRINGS f129 hv_SIOOBE_FORMATTER (by rw [own_mlen]; omega) (by rw [own_mlen]; omega) (by rw [show 5 + (Jvm.Free.SBG.digitsL nN_ + Jvm.Free.SBG.GetCharsL.sgnL x0) + 1 = 6 + (Jvm.Free.SBG.digitsL nN_ + Jvm.Free.SBG.GetCharsL.sgnL x0) from by omega]; exact (own_add (a := 6) rfl hdN_).symm) (by decide) (W := 0) (by decide) (by decide) (by decide) e131 (by rw [hml]; rfl) (Nat.le_of_eq rfl) (hb hby at_490) ?_
      intro T133 X133 e133
      show oG p e below _ (T133.setTop (mkF m 493 #[sJ x0, sS, sI x1, sI x2, sI x3, sI nI_, sI ca_, sI cb_, sI cc_, sR b1, sR b5, sR b13, sR b22, sR rJ_, sR bJ_, sI tt_, sI d_, sI 0, sI d_, sI 5, sI j_, sJ qv_, sS, sJ qv_, sS] [(.int ((own_msg nN_ x0 ds_).getD (5 + (Jvm.Free.SBG.digitsL nN_ + Jvm.Free.SBG.GetCharsL.sgnL x0) + 1) 0))]))
      refine og (fun _ hr => XS.bipush X133.here hx rfl (hb hby at_493) hr) ?_
      show oG p e below _ (T133.setTop (mkF m 495 #[sJ x0, sS, sI x1, sI x2, sI x3, sI nI_, sI ca_, sI cb_, sI cc_, sR b1, sR b5, sR b13, sR b22, sR rJ_, sR bJ_, sI tt_, sI d_, sI 0, sI d_, sI 5, sI j_, sJ qv_, sS, sJ qv_, sS] [(.int 32), (.int ((own_msg nN_ x0 ds_).getD (5 + (Jvm.Free.SBG.digitsL nN_ + Jvm.Free.SBG.GetCharsL.sgnL x0) + 1) 0))]))
      have hk134 : ((own_msg nN_ x0 ds_).getD (5 + (Jvm.Free.SBG.digitsL nN_ + Jvm.Free.SBG.GetCharsL.sgnL x0) + 1) 0) = (32 : Int32) := own_ms_t (by decide)
      refine og (fun _ hr => XS.icmpYes X133.here hx rfl (pc0 := 495) (pc' := 500) rfl (hb hby at_495) rfl (teq hk134).1 (by decide) (by decide) hr) ?_
      show oG p e below _ (T133.setTop (mkF m 500 #[sJ x0, sS, sI x1, sI x2, sI x3, sI nI_, sI ca_, sI cb_, sI cc_, sR b1, sR b5, sR b13, sR b22, sR rJ_, sR bJ_, sI tt_, sI d_, sI 0, sI d_, sI 5, sI j_, sJ qv_, sS, sJ qv_, sS] []))
      rcases hds_ with ⟨hq_, rfl⟩ | ⟨hq_, rfl⟩ | ⟨hq_, rfl⟩ | ⟨hq_, rfl⟩
      · subst hq_
        show oG p e below _ (T133.setTop (mkF m 500 #[sJ x0, sS, sI x1, sI x2, sI x3, sI 0, sI ca_, sI cb_, sI cc_, sR b1, sR b5, sR b13, sR b22, sR rJ_, sR bJ_, sI tt_, sI d_, sI 0, sI d_, sI 5, sI j_, sJ qv_, sS, sJ qv_, sS] []))
        refine og (fun _ hr => XS.iload X133.here hx rfl (hb hby at_500) rfl (XS.iconst X133.here hx rfl (hb hby at_502) (XS.icmpYes X133.here hx rfl (pc0 := 503) (pc' := 523) rfl (hb hby at_503) rfl (tlt (by decide)).1 (by decide) (by decide) (XS.iload X133.here hx rfl (hb hby at_523) rfl (XS.iconst X133.here hx rfl (hb hby at_525) (XS.icmpYes X133.here hx rfl (pc0 := 526) (pc' := 546) rfl (hb hby at_526) rfl (tlt (by decide)).1 (by decide) (by decide) (XS.iload X133.here hx rfl (hb hby at_546) rfl (XS.iconst X133.here hx rfl (hb hby at_548) (XS.icmpYes X133.here hx rfl (pc0 := 549) (pc' := 569) rfl (hb hby at_549) rfl (tlt (by decide)).1 (by decide) (by decide) (XS.iconst X133.here hx rfl (hb hby at_569) hr)))))))))) ?_
        show oG p e below _ (T133.setTop (mkF m 570 #[sJ x0, sS, sI x1, sI x2, sI x3, sI 0, sI ca_, sI cb_, sI cc_, sR b1, sR b5, sR b13, sR b22, sR rJ_, sR bJ_, sI tt_, sI d_, sI 0, sI d_, sI 5, sI j_, sJ qv_, sS, sJ qv_, sS] [(.int 1)]))
        have hk135 := (Nat.le_trans (Nat.le_trans (Nat.le_refl _) Kj.1) K119.1)
        have A136 := A0.trans Am
        have A137 := A136.trans (CHr.keep Kj sf0 A136.1)
        have A138 := A137.trans (CHr.keep K119 sf0 A137.1)
        exact own_retNW X133 hx hlk Bd.returns hS hk135 hZ hEL hh e133 A138 (t := .boolean) (by simp) (hb hby at_570) (by decide) (by decide) ⟨rfl, N119⟩
      · subst hq_
        show oG p e below _ (T133.setTop (mkF m 500 #[sJ x0, sS, sI x1, sI x2, sI x3, sI 1, sI ca_, sI cb_, sI cc_, sR b1, sR b5, sR b13, sR b22, sR rJ_, sR bJ_, sI tt_, sI d_, sI 0, sI d_, sI 5, sI j_, sJ qv_, sS, sJ qv_, sS] []))
        refine og (fun _ hr => XS.iload X133.here hx rfl (hb hby at_500) rfl (XS.iconst X133.here hx rfl (hb hby at_502) (XS.icmpNo X133.here hx rfl (hb hby at_503) rfl (flt (by decide)).1 (XS.aload X133.here hx rfl (hb hby at_506) rfl rfl (XS.bipush X133.here hx rfl (hb hby at_508) (XS.iload X133.here hx rfl (hb hby at_510) rfl (XS.iadd X133.here hx rfl (hb hby at_512) rfl hr))))))) ?_
        show oG p e below _ (T133.setTop (mkF m 513 #[sJ x0, sS, sI x1, sI x2, sI x3, sI 1, sI ca_, sI cb_, sI cc_, sR b1, sR b5, sR b13, sR b22, sR rJ_, sR bJ_, sI tt_, sI d_, sI 0, sI d_, sI 5, sI j_, sJ qv_, sS, sJ qv_, sS] [(.int ((7 : Int32) + d_)), (.ref bJ_)]))
        refine own_chs X133 hx hZ hown hw (hw _ (own_m 182 rfl)) (hw _ (own_m 183 rfl)) (hw _ (own_m 185 rfl)) (hw _ (own_m 184 rfl)) (hw _ (own_m 2 rfl)) (own_msg nN_ x0 [ca_]) (7 + (Jvm.Free.SBG.digitsL nN_ + Jvm.Free.SBG.GetCharsL.sgnL x0) + 0) f124 f125 f126 f127 (Or.inl ⟨rfl, rfl, rfl, fun c hc => (hmt_ c hc).2⟩) (own_up hmt_) f128 hs_COMPACT_STRINGS f129 hv_SIOOBE_FORMATTER (by rw [own_mlen]; omega) (by rw [own_mlen]; show _ < 7 + (Jvm.Free.SBG.digitsL nN_ + Jvm.Free.SBG.GetCharsL.sgnL x0) + 1; omega) (by rw [show 7 + (Jvm.Free.SBG.digitsL nN_ + Jvm.Free.SBG.GetCharsL.sgnL x0) + 0 = 7 + (Jvm.Free.SBG.digitsL nN_ + Jvm.Free.SBG.GetCharsL.sgnL x0) from by omega]; exact (own_add (a := 7) rfl hdN_).symm) (by decide) (W := 0) (by decide) (by decide) (by decide) e133 (by rw [hml]; rfl) (Nat.le_of_eq rfl) (hb hby at_513) ?_
        intro T139 X139 e139
        show oG p e below _ (T139.setTop (mkF m 516 #[sJ x0, sS, sI x1, sI x2, sI x3, sI 1, sI ca_, sI cb_, sI cc_, sR b1, sR b5, sR b13, sR b22, sR rJ_, sR bJ_, sI tt_, sI d_, sI 0, sI d_, sI 5, sI j_, sJ qv_, sS, sJ qv_, sS] [(.int ((own_msg nN_ x0 [ca_]).getD (7 + (Jvm.Free.SBG.digitsL nN_ + Jvm.Free.SBG.GetCharsL.sgnL x0) + 0) 0))]))
        refine og (fun _ hr => XS.iload X139.here hx rfl (hb hby at_516) rfl hr) ?_
        show oG p e below _ (T139.setTop (mkF m 518 #[sJ x0, sS, sI x1, sI x2, sI x3, sI 1, sI ca_, sI cb_, sI cc_, sR b1, sR b5, sR b13, sR b22, sR rJ_, sR bJ_, sI tt_, sI d_, sI 0, sI d_, sI 5, sI j_, sJ qv_, sS, sJ qv_, sS] [(.int ca_), (.int ((own_msg nN_ x0 [ca_]).getD (7 + (Jvm.Free.SBG.digitsL nN_ + Jvm.Free.SBG.GetCharsL.sgnL x0) + 0) 0))]))
        have hk140 : ((own_msg nN_ x0 [ca_]).getD (7 + (Jvm.Free.SBG.digitsL nN_ + Jvm.Free.SBG.GetCharsL.sgnL x0) + 0) 0) = ca_ := own_ms_r
        refine og (fun _ hr => XS.icmpYes X139.here hx rfl (pc0 := 518) (pc' := 523) rfl (hb hby at_518) rfl (teq hk140).1 (by decide) (by decide) hr) ?_
        show oG p e below _ (T139.setTop (mkF m 523 #[sJ x0, sS, sI x1, sI x2, sI x3, sI 1, sI ca_, sI cb_, sI cc_, sR b1, sR b5, sR b13, sR b22, sR rJ_, sR bJ_, sI tt_, sI d_, sI 0, sI d_, sI 5, sI j_, sJ qv_, sS, sJ qv_, sS] []))
        refine og (fun _ hr => XS.iload X139.here hx rfl (hb hby at_523) rfl (XS.iconst X139.here hx rfl (hb hby at_525) (XS.icmpYes X139.here hx rfl (pc0 := 526) (pc' := 546) rfl (hb hby at_526) rfl (tlt (by decide)).1 (by decide) (by decide) (XS.iload X139.here hx rfl (hb hby at_546) rfl (XS.iconst X139.here hx rfl (hb hby at_548) (XS.icmpYes X139.here hx rfl (pc0 := 549) (pc' := 569) rfl (hb hby at_549) rfl (tlt (by decide)).1 (by decide) (by decide) (XS.iconst X139.here hx rfl (hb hby at_569) hr))))))) ?_
        show oG p e below _ (T139.setTop (mkF m 570 #[sJ x0, sS, sI x1, sI x2, sI x3, sI 1, sI ca_, sI cb_, sI cc_, sR b1, sR b5, sR b13, sR b22, sR rJ_, sR bJ_, sI tt_, sI d_, sI 0, sI d_, sI 5, sI j_, sJ qv_, sS, sJ qv_, sS] [(.int 1)]))
        have hk141 := (Nat.le_trans (Nat.le_trans (Nat.le_refl _) Kj.1) K119.1)
        have A142 := A0.trans Am
        have A143 := A142.trans (CHr.keep Kj sf0 A142.1)
        have A144 := A143.trans (CHr.keep K119 sf0 A143.1)
        exact own_retNW X139 hx hlk Bd.returns hS hk141 hZ hEL hh e139 A144 (t := .boolean) (by simp) (hb hby at_570) (by decide) (by decide) ⟨rfl, N119⟩
      · subst hq_
        show oG p e below _ (T133.setTop (mkF m 500 #[sJ x0, sS, sI x1, sI x2, sI x3, sI 2, sI ca_, sI cb_, sI cc_, sR b1, sR b5, sR b13, sR b22, sR rJ_, sR bJ_, sI tt_, sI d_, sI 0, sI d_, sI 5, sI j_, sJ qv_, sS, sJ qv_, sS] []))
        refine og (fun _ hr => XS.iload X133.here hx rfl (hb hby at_500) rfl (XS.iconst X133.here hx rfl (hb hby at_502) (XS.icmpNo X133.here hx rfl (hb hby at_503) rfl (flt (by decide)).1 (XS.aload X133.here hx rfl (hb hby at_506) rfl rfl (XS.bipush X133.here hx rfl (hb hby at_508) (XS.iload X133.here hx rfl (hb hby at_510) rfl (XS.iadd X133.here hx rfl (hb hby at_512) rfl hr))))))) ?_
        show oG p e below _ (T133.setTop (mkF m 513 #[sJ x0, sS, sI x1, sI x2, sI x3, sI 2, sI ca_, sI cb_, sI cc_, sR b1, sR b5, sR b13, sR b22, sR rJ_, sR bJ_, sI tt_, sI d_, sI 0, sI d_, sI 5, sI j_, sJ qv_, sS, sJ qv_, sS] [(.int ((7 : Int32) + d_)), (.ref bJ_)]))
        refine own_chs X133 hx hZ hown hw (hw _ (own_m 182 rfl)) (hw _ (own_m 183 rfl)) (hw _ (own_m 185 rfl)) (hw _ (own_m 184 rfl)) (hw _ (own_m 2 rfl)) (own_msg nN_ x0 [ca_, cb_]) (7 + (Jvm.Free.SBG.digitsL nN_ + Jvm.Free.SBG.GetCharsL.sgnL x0) + 0) f124 f125 f126 f127 (Or.inl ⟨rfl, rfl, rfl, fun c hc => (hmt_ c hc).2⟩) (own_up hmt_) f128 hs_COMPACT_STRINGS f129 hv_SIOOBE_FORMATTER (by rw [own_mlen]; omega) (by rw [own_mlen]; show _ < 7 + (Jvm.Free.SBG.digitsL nN_ + Jvm.Free.SBG.GetCharsL.sgnL x0) + 2; omega) (by rw [show 7 + (Jvm.Free.SBG.digitsL nN_ + Jvm.Free.SBG.GetCharsL.sgnL x0) + 0 = 7 + (Jvm.Free.SBG.digitsL nN_ + Jvm.Free.SBG.GetCharsL.sgnL x0) from by omega]; exact (own_add (a := 7) rfl hdN_).symm) (by decide) (W := 0) (by decide) (by decide) (by decide) e133 (by rw [hml]; rfl) (Nat.le_of_eq rfl) (hb hby at_513) ?_
        intro T145 X145 e145
        show oG p e below _ (T145.setTop (mkF m 516 #[sJ x0, sS, sI x1, sI x2, sI x3, sI 2, sI ca_, sI cb_, sI cc_, sR b1, sR b5, sR b13, sR b22, sR rJ_, sR bJ_, sI tt_, sI d_, sI 0, sI d_, sI 5, sI j_, sJ qv_, sS, sJ qv_, sS] [(.int ((own_msg nN_ x0 [ca_, cb_]).getD (7 + (Jvm.Free.SBG.digitsL nN_ + Jvm.Free.SBG.GetCharsL.sgnL x0) + 0) 0))]))
        refine og (fun _ hr => XS.iload X145.here hx rfl (hb hby at_516) rfl hr) ?_
        show oG p e below _ (T145.setTop (mkF m 518 #[sJ x0, sS, sI x1, sI x2, sI x3, sI 2, sI ca_, sI cb_, sI cc_, sR b1, sR b5, sR b13, sR b22, sR rJ_, sR bJ_, sI tt_, sI d_, sI 0, sI d_, sI 5, sI j_, sJ qv_, sS, sJ qv_, sS] [(.int ca_), (.int ((own_msg nN_ x0 [ca_, cb_]).getD (7 + (Jvm.Free.SBG.digitsL nN_ + Jvm.Free.SBG.GetCharsL.sgnL x0) + 0) 0))]))
        have hk146 : ((own_msg nN_ x0 [ca_, cb_]).getD (7 + (Jvm.Free.SBG.digitsL nN_ + Jvm.Free.SBG.GetCharsL.sgnL x0) + 0) 0) = ca_ := own_ms_r
        refine og (fun _ hr => XS.icmpYes X145.here hx rfl (pc0 := 518) (pc' := 523) rfl (hb hby at_518) rfl (teq hk146).1 (by decide) (by decide) hr) ?_
        show oG p e below _ (T145.setTop (mkF m 523 #[sJ x0, sS, sI x1, sI x2, sI x3, sI 2, sI ca_, sI cb_, sI cc_, sR b1, sR b5, sR b13, sR b22, sR rJ_, sR bJ_, sI tt_, sI d_, sI 0, sI d_, sI 5, sI j_, sJ qv_, sS, sJ qv_, sS] []))
        refine og (fun _ hr => XS.iload X145.here hx rfl (hb hby at_523) rfl (XS.iconst X145.here hx rfl (hb hby at_525) (XS.icmpNo X145.here hx rfl (hb hby at_526) rfl (flt (by decide)).1 (XS.aload X145.here hx rfl (hb hby at_529) rfl rfl (XS.bipush X145.here hx rfl (hb hby at_531) (XS.iload X145.here hx rfl (hb hby at_533) rfl (XS.iadd X145.here hx rfl (hb hby at_535) rfl hr))))))) ?_
        show oG p e below _ (T145.setTop (mkF m 536 #[sJ x0, sS, sI x1, sI x2, sI x3, sI 2, sI ca_, sI cb_, sI cc_, sR b1, sR b5, sR b13, sR b22, sR rJ_, sR bJ_, sI tt_, sI d_, sI 0, sI d_, sI 5, sI j_, sJ qv_, sS, sJ qv_, sS] [(.int ((8 : Int32) + d_)), (.ref bJ_)]))
        refine own_chs X145 hx hZ hown hw (hw _ (own_m 182 rfl)) (hw _ (own_m 183 rfl)) (hw _ (own_m 185 rfl)) (hw _ (own_m 184 rfl)) (hw _ (own_m 2 rfl)) (own_msg nN_ x0 [ca_, cb_]) (7 + (Jvm.Free.SBG.digitsL nN_ + Jvm.Free.SBG.GetCharsL.sgnL x0) + 1) f124 f125 f126 f127 (Or.inl ⟨rfl, rfl, rfl, fun c hc => (hmt_ c hc).2⟩) (own_up hmt_) f128 hs_COMPACT_STRINGS f129 hv_SIOOBE_FORMATTER (by rw [own_mlen]; omega) (by rw [own_mlen]; show _ < 7 + (Jvm.Free.SBG.digitsL nN_ + Jvm.Free.SBG.GetCharsL.sgnL x0) + 2; omega) (by rw [show 7 + (Jvm.Free.SBG.digitsL nN_ + Jvm.Free.SBG.GetCharsL.sgnL x0) + 1 = 8 + (Jvm.Free.SBG.digitsL nN_ + Jvm.Free.SBG.GetCharsL.sgnL x0) from by omega]; exact (own_add (a := 8) rfl hdN_).symm) (by decide) (W := 0) (by decide) (by decide) (by decide) e145 (by rw [hml]; rfl) (Nat.le_of_eq rfl) (hb hby at_536) ?_
        intro T147 X147 e147
        show oG p e below _ (T147.setTop (mkF m 539 #[sJ x0, sS, sI x1, sI x2, sI x3, sI 2, sI ca_, sI cb_, sI cc_, sR b1, sR b5, sR b13, sR b22, sR rJ_, sR bJ_, sI tt_, sI d_, sI 0, sI d_, sI 5, sI j_, sJ qv_, sS, sJ qv_, sS] [(.int ((own_msg nN_ x0 [ca_, cb_]).getD (7 + (Jvm.Free.SBG.digitsL nN_ + Jvm.Free.SBG.GetCharsL.sgnL x0) + 1) 0))]))
        refine og (fun _ hr => XS.iload X147.here hx rfl (hb hby at_539) rfl hr) ?_
        show oG p e below _ (T147.setTop (mkF m 541 #[sJ x0, sS, sI x1, sI x2, sI x3, sI 2, sI ca_, sI cb_, sI cc_, sR b1, sR b5, sR b13, sR b22, sR rJ_, sR bJ_, sI tt_, sI d_, sI 0, sI d_, sI 5, sI j_, sJ qv_, sS, sJ qv_, sS] [(.int cb_), (.int ((own_msg nN_ x0 [ca_, cb_]).getD (7 + (Jvm.Free.SBG.digitsL nN_ + Jvm.Free.SBG.GetCharsL.sgnL x0) + 1) 0))]))
        have hk148 : ((own_msg nN_ x0 [ca_, cb_]).getD (7 + (Jvm.Free.SBG.digitsL nN_ + Jvm.Free.SBG.GetCharsL.sgnL x0) + 1) 0) = cb_ := own_ms_r
        refine og (fun _ hr => XS.icmpYes X147.here hx rfl (pc0 := 541) (pc' := 546) rfl (hb hby at_541) rfl (teq hk148).1 (by decide) (by decide) hr) ?_
        show oG p e below _ (T147.setTop (mkF m 546 #[sJ x0, sS, sI x1, sI x2, sI x3, sI 2, sI ca_, sI cb_, sI cc_, sR b1, sR b5, sR b13, sR b22, sR rJ_, sR bJ_, sI tt_, sI d_, sI 0, sI d_, sI 5, sI j_, sJ qv_, sS, sJ qv_, sS] []))
        refine og (fun _ hr => XS.iload X147.here hx rfl (hb hby at_546) rfl (XS.iconst X147.here hx rfl (hb hby at_548) (XS.icmpYes X147.here hx rfl (pc0 := 549) (pc' := 569) rfl (hb hby at_549) rfl (tlt (by decide)).1 (by decide) (by decide) (XS.iconst X147.here hx rfl (hb hby at_569) hr)))) ?_
        show oG p e below _ (T147.setTop (mkF m 570 #[sJ x0, sS, sI x1, sI x2, sI x3, sI 2, sI ca_, sI cb_, sI cc_, sR b1, sR b5, sR b13, sR b22, sR rJ_, sR bJ_, sI tt_, sI d_, sI 0, sI d_, sI 5, sI j_, sJ qv_, sS, sJ qv_, sS] [(.int 1)]))
        have hk149 := (Nat.le_trans (Nat.le_trans (Nat.le_refl _) Kj.1) K119.1)
        have A150 := A0.trans Am
        have A151 := A150.trans (CHr.keep Kj sf0 A150.1)
        have A152 := A151.trans (CHr.keep K119 sf0 A151.1)
        exact own_retNW X147 hx hlk Bd.returns hS hk149 hZ hEL hh e147 A152 (t := .boolean) (by simp) (hb hby at_570) (by decide) (by decide) ⟨rfl, N119⟩
      subst hq_
      show oG p e below _ (T133.setTop (mkF m 500 #[sJ x0, sS, sI x1, sI x2, sI x3, sI 3, sI ca_, sI cb_, sI cc_, sR b1, sR b5, sR b13, sR b22, sR rJ_, sR bJ_, sI tt_, sI d_, sI 0, sI d_, sI 5, sI j_, sJ qv_, sS, sJ qv_, sS] []))
      refine og (fun _ hr => XS.iload X133.here hx rfl (hb hby at_500) rfl (XS.iconst X133.here hx rfl (hb hby at_502) (XS.icmpNo X133.here hx rfl (hb hby at_503) rfl (flt (by decide)).1 (XS.aload X133.here hx rfl (hb hby at_506) rfl rfl (XS.bipush X133.here hx rfl (hb hby at_508) (XS.iload X133.here hx rfl (hb hby at_510) rfl (XS.iadd X133.here hx rfl (hb hby at_512) rfl hr))))))) ?_
      show oG p e below _ (T133.setTop (mkF m 513 #[sJ x0, sS, sI x1, sI x2, sI x3, sI 3, sI ca_, sI cb_, sI cc_, sR b1, sR b5, sR b13, sR b22, sR rJ_, sR bJ_, sI tt_, sI d_, sI 0, sI d_, sI 5, sI j_, sJ qv_, sS, sJ qv_, sS] [(.int ((7 : Int32) + d_)), (.ref bJ_)]))
      refine own_chs X133 hx hZ hown hw (hw _ (own_m 182 rfl)) (hw _ (own_m 183 rfl)) (hw _ (own_m 185 rfl)) (hw _ (own_m 184 rfl)) (hw _ (own_m 2 rfl)) (own_msg nN_ x0 [ca_, cb_, cc_]) (7 + (Jvm.Free.SBG.digitsL nN_ + Jvm.Free.SBG.GetCharsL.sgnL x0) + 0) f124 f125 f126 f127 (Or.inl ⟨rfl, rfl, rfl, fun c hc => (hmt_ c hc).2⟩) (own_up hmt_) f128 hs_COMPACT_STRINGS f129 hv_SIOOBE_FORMATTER (by rw [own_mlen]; omega) (by rw [own_mlen]; show _ < 7 + (Jvm.Free.SBG.digitsL nN_ + Jvm.Free.SBG.GetCharsL.sgnL x0) + 3; omega) (by rw [show 7 + (Jvm.Free.SBG.digitsL nN_ + Jvm.Free.SBG.GetCharsL.sgnL x0) + 0 = 7 + (Jvm.Free.SBG.digitsL nN_ + Jvm.Free.SBG.GetCharsL.sgnL x0) from by omega]; exact (own_add (a := 7) rfl hdN_).symm) (by decide) (W := 0) (by decide) (by decide) (by decide) e133 (by rw [hml]; rfl) (Nat.le_of_eq rfl) (hb hby at_513) ?_
      intro T153 X153 e153
      show oG p e below _ (T153.setTop (mkF m 516 #[sJ x0, sS, sI x1, sI x2, sI x3, sI 3, sI ca_, sI cb_, sI cc_, sR b1, sR b5, sR b13, sR b22, sR rJ_, sR bJ_, sI tt_, sI d_, sI 0, sI d_, sI 5, sI j_, sJ qv_, sS, sJ qv_, sS] [(.int ((own_msg nN_ x0 [ca_, cb_, cc_]).getD (7 + (Jvm.Free.SBG.digitsL nN_ + Jvm.Free.SBG.GetCharsL.sgnL x0) + 0) 0))]))
      refine og (fun _ hr => XS.iload X153.here hx rfl (hb hby at_516) rfl hr) ?_
      show oG p e below _ (T153.setTop (mkF m 518 #[sJ x0, sS, sI x1, sI x2, sI x3, sI 3, sI ca_, sI cb_, sI cc_, sR b1, sR b5, sR b13, sR b22, sR rJ_, sR bJ_, sI tt_, sI d_, sI 0, sI d_, sI 5, sI j_, sJ qv_, sS, sJ qv_, sS] [(.int ca_), (.int ((own_msg nN_ x0 [ca_, cb_, cc_]).getD (7 + (Jvm.Free.SBG.digitsL nN_ + Jvm.Free.SBG.GetCharsL.sgnL x0) + 0) 0))]))
      have hk154 : ((own_msg nN_ x0 [ca_, cb_, cc_]).getD (7 + (Jvm.Free.SBG.digitsL nN_ + Jvm.Free.SBG.GetCharsL.sgnL x0) + 0) 0) = ca_ := own_ms_r
      refine og (fun _ hr => XS.icmpYes X153.here hx rfl (pc0 := 518) (pc' := 523) rfl (hb hby at_518) rfl (teq hk154).1 (by decide) (by decide) hr) ?_
      show oG p e below _ (T153.setTop (mkF m 523 #[sJ x0, sS, sI x1, sI x2, sI x3, sI 3, sI ca_, sI cb_, sI cc_, sR b1, sR b5, sR b13, sR b22, sR rJ_, sR bJ_, sI tt_, sI d_, sI 0, sI d_, sI 5, sI j_, sJ qv_, sS, sJ qv_, sS] []))
      refine og (fun _ hr => XS.iload X153.here hx rfl (hb hby at_523) rfl (XS.iconst X153.here hx rfl (hb hby at_525) (XS.icmpNo X153.here hx rfl (hb hby at_526) rfl (flt (by decide)).1 (XS.aload X153.here hx rfl (hb hby at_529) rfl rfl (XS.bipush X153.here hx rfl (hb hby at_531) (XS.iload X153.here hx rfl (hb hby at_533) rfl (XS.iadd X153.here hx rfl (hb hby at_535) rfl hr))))))) ?_
      show oG p e below _ (T153.setTop (mkF m 536 #[sJ x0, sS, sI x1, sI x2, sI x3, sI 3, sI ca_, sI cb_, sI cc_, sR b1, sR b5, sR b13, sR b22, sR rJ_, sR bJ_, sI tt_, sI d_, sI 0, sI d_, sI 5, sI j_, sJ qv_, sS, sJ qv_, sS] [(.int ((8 : Int32) + d_)), (.ref bJ_)]))
      refine own_chs X153 hx hZ hown hw (hw _ (own_m 182 rfl)) (hw _ (own_m 183 rfl)) (hw _ (own_m 185 rfl)) (hw _ (own_m 184 rfl)) (hw _ (own_m 2 rfl)) (own_msg nN_ x0 [ca_, cb_, cc_]) (7 + (Jvm.Free.SBG.digitsL nN_ + Jvm.Free.SBG.GetCharsL.sgnL x0) + 1) f124 f125 f126 f127 (Or.inl ⟨rfl, rfl, rfl, fun c hc => (hmt_ c hc).2⟩) (own_up hmt_) f128 hs_COMPACT_STRINGS f129 hv_SIOOBE_FORMATTER (by rw [own_mlen]; omega) (by rw [own_mlen]; show _ < 7 + (Jvm.Free.SBG.digitsL nN_ + Jvm.Free.SBG.GetCharsL.sgnL x0) + 3; omega) (by rw [show 7 + (Jvm.Free.SBG.digitsL nN_ + Jvm.Free.SBG.GetCharsL.sgnL x0) + 1 = 8 + (Jvm.Free.SBG.digitsL nN_ + Jvm.Free.SBG.GetCharsL.sgnL x0) from by omega]; exact (own_add (a := 8) rfl hdN_).symm) (by decide) (W := 0) (by decide) (by decide) (by decide) e153 (by rw [hml]; rfl) (Nat.le_of_eq rfl) (hb hby at_536) ?_
      intro T155 X155 e155
      show oG p e below _ (T155.setTop (mkF m 539 #[sJ x0, sS, sI x1, sI x2, sI x3, sI 3, sI ca_, sI cb_, sI cc_, sR b1, sR b5, sR b13, sR b22, sR rJ_, sR bJ_, sI tt_, sI d_, sI 0, sI d_, sI 5, sI j_, sJ qv_, sS, sJ qv_, sS] [(.int ((own_msg nN_ x0 [ca_, cb_, cc_]).getD (7 + (Jvm.Free.SBG.digitsL nN_ + Jvm.Free.SBG.GetCharsL.sgnL x0) + 1) 0))]))
      refine og (fun _ hr => XS.iload X155.here hx rfl (hb hby at_539) rfl hr) ?_
      show oG p e below _ (T155.setTop (mkF m 541 #[sJ x0, sS, sI x1, sI x2, sI x3, sI 3, sI ca_, sI cb_, sI cc_, sR b1, sR b5, sR b13, sR b22, sR rJ_, sR bJ_, sI tt_, sI d_, sI 0, sI d_, sI 5, sI j_, sJ qv_, sS, sJ qv_, sS] [(.int cb_), (.int ((own_msg nN_ x0 [ca_, cb_, cc_]).getD (7 + (Jvm.Free.SBG.digitsL nN_ + Jvm.Free.SBG.GetCharsL.sgnL x0) + 1) 0))]))
      have hk156 : ((own_msg nN_ x0 [ca_, cb_, cc_]).getD (7 + (Jvm.Free.SBG.digitsL nN_ + Jvm.Free.SBG.GetCharsL.sgnL x0) + 1) 0) = cb_ := own_ms_r
      refine og (fun _ hr => XS.icmpYes X155.here hx rfl (pc0 := 541) (pc' := 546) rfl (hb hby at_541) rfl (teq hk156).1 (by decide) (by decide) hr) ?_
      show oG p e below _ (T155.setTop (mkF m 546 #[sJ x0, sS, sI x1, sI x2, sI x3, sI 3, sI ca_, sI cb_, sI cc_, sR b1, sR b5, sR b13, sR b22, sR rJ_, sR bJ_, sI tt_, sI d_, sI 0, sI d_, sI 5, sI j_, sJ qv_, sS, sJ qv_, sS] []))
      refine og (fun _ hr => XS.iload X155.here hx rfl (hb hby at_546) rfl (XS.iconst X155.here hx rfl (hb hby at_548) (XS.icmpNo X155.here hx rfl (hb hby at_549) rfl (flt (by decide)).1 (XS.aload X155.here hx rfl (hb hby at_552) rfl rfl (XS.bipush X155.here hx rfl (hb hby at_554) (XS.iload X155.here hx rfl (hb hby at_556) rfl (XS.iadd X155.here hx rfl (hb hby at_558) rfl hr))))))) ?_
      show oG p e below _ (T155.setTop (mkF m 559 #[sJ x0, sS, sI x1, sI x2, sI x3, sI 3, sI ca_, sI cb_, sI cc_, sR b1, sR b5, sR b13, sR b22, sR rJ_, sR bJ_, sI tt_, sI d_, sI 0, sI d_, sI 5, sI j_, sJ qv_, sS, sJ qv_, sS] [(.int ((9 : Int32) + d_)), (.ref bJ_)]))
      refine own_chs X155 hx hZ hown hw (hw _ (own_m 182 rfl)) (hw _ (own_m 183 rfl)) (hw _ (own_m 185 rfl)) (hw _ (own_m 184 rfl)) (hw _ (own_m 2 rfl)) (own_msg nN_ x0 [ca_, cb_, cc_]) (7 + (Jvm.Free.SBG.digitsL nN_ + Jvm.Free.SBG.GetCharsL.sgnL x0) + 2) f124 f125 f126 f127 (Or.inl ⟨rfl, rfl, rfl, fun c hc => (hmt_ c hc).2⟩) (own_up hmt_) f128 hs_COMPACT_STRINGS f129 hv_SIOOBE_FORMATTER (by rw [own_mlen]; omega) (by rw [own_mlen]; show _ < 7 + (Jvm.Free.SBG.digitsL nN_ + Jvm.Free.SBG.GetCharsL.sgnL x0) + 3; omega) (by rw [show 7 + (Jvm.Free.SBG.digitsL nN_ + Jvm.Free.SBG.GetCharsL.sgnL x0) + 2 = 9 + (Jvm.Free.SBG.digitsL nN_ + Jvm.Free.SBG.GetCharsL.sgnL x0) from by omega]; exact (own_add (a := 9) rfl hdN_).symm) (by decide) (W := 0) (by decide) (by decide) (by decide) e155 (by rw [hml]; rfl) (Nat.le_of_eq rfl) (hb hby at_559) ?_
      intro T157 X157 e157
      show oG p e below _ (T157.setTop (mkF m 562 #[sJ x0, sS, sI x1, sI x2, sI x3, sI 3, sI ca_, sI cb_, sI cc_, sR b1, sR b5, sR b13, sR b22, sR rJ_, sR bJ_, sI tt_, sI d_, sI 0, sI d_, sI 5, sI j_, sJ qv_, sS, sJ qv_, sS] [(.int ((own_msg nN_ x0 [ca_, cb_, cc_]).getD (7 + (Jvm.Free.SBG.digitsL nN_ + Jvm.Free.SBG.GetCharsL.sgnL x0) + 2) 0))]))
      refine og (fun _ hr => XS.iload X157.here hx rfl (hb hby at_562) rfl hr) ?_
      show oG p e below _ (T157.setTop (mkF m 564 #[sJ x0, sS, sI x1, sI x2, sI x3, sI 3, sI ca_, sI cb_, sI cc_, sR b1, sR b5, sR b13, sR b22, sR rJ_, sR bJ_, sI tt_, sI d_, sI 0, sI d_, sI 5, sI j_, sJ qv_, sS, sJ qv_, sS] [(.int cc_), (.int ((own_msg nN_ x0 [ca_, cb_, cc_]).getD (7 + (Jvm.Free.SBG.digitsL nN_ + Jvm.Free.SBG.GetCharsL.sgnL x0) + 2) 0))]))
      have hk158 : ((own_msg nN_ x0 [ca_, cb_, cc_]).getD (7 + (Jvm.Free.SBG.digitsL nN_ + Jvm.Free.SBG.GetCharsL.sgnL x0) + 2) 0) = cc_ := own_ms_r
      refine og (fun _ hr => XS.icmpYes X157.here hx rfl (pc0 := 564) (pc' := 569) rfl (hb hby at_564) rfl (teq hk158).1 (by decide) (by decide) hr) ?_
      show oG p e below _ (T157.setTop (mkF m 569 #[sJ x0, sS, sI x1, sI x2, sI x3, sI 3, sI ca_, sI cb_, sI cc_, sR b1, sR b5, sR b13, sR b22, sR rJ_, sR bJ_, sI tt_, sI d_, sI 0, sI d_, sI 5, sI j_, sJ qv_, sS, sJ qv_, sS] []))
      refine og (fun _ hr => XS.iconst X157.here hx rfl (hb hby at_569) hr) ?_
      show oG p e below _ (T157.setTop (mkF m 570 #[sJ x0, sS, sI x1, sI x2, sI x3, sI 3, sI ca_, sI cb_, sI cc_, sR b1, sR b5, sR b13, sR b22, sR rJ_, sR bJ_, sI tt_, sI d_, sI 0, sI d_, sI 5, sI j_, sJ qv_, sS, sJ qv_, sS] [(.int 1)]))
      have hk159 := (Nat.le_trans (Nat.le_trans (Nat.le_refl _) Kj.1) K119.1)
      have A160 := A0.trans Am
      have A161 := A160.trans (CHr.keep Kj sf0 A160.1)
      have A162 := A161.trans (CHr.keep K119 sf0 A161.1)
      exact own_retNW X157 hx hlk Bd.returns hS hk159 hZ hEL hh e157 A162 (t := .boolean) (by simp) (hb hby at_570) (by decide) (by decide) ⟨rfl, N119⟩
    refine og (fun _ hr => XS.iload X116.here hx rfl (hb hby at_306) rfl (XS.ifNo X116.here hx rfl (hb hby at_308) rfl ((if0 _ _).trans (teq (by decide)).2) (XS.iload X116.here hx rfl (hb hby at_311) rfl (XS.iconst X116.here hx rfl (hb hby at_313) hr)))) ?_
    show oG p e below _ (T116.setTop (mkF m 314 #[sJ x0, sS, sI x1, sI x2, sI x3, sI nI_, sI ca_, sI cb_, sI cc_, sR b1, sR b5, sR b13, sR b22, sR rJ_, sR bJ_, sI tt_, sI d_, sI 0, sI d_, sU, sU, sU, sU, sU, sU] [(.int 1), (.int d_)]))
    rcases Classical.em ((1 : Int32) < d_) with c163 | c163
    · skip
      refine og (fun _ hr => XS.icmpNo X116.here hx rfl (hb hby at_314) rfl (tlt c163).2.2.2 hr) ?_
      show oG p e below _ (T116.setTop (mkF m 317 #[sJ x0, sS, sI x1, sI x2, sI x3, sI nI_, sI ca_, sI cb_, sI cc_, sR b1, sR b5, sR b13, sR b22, sR rJ_, sR bJ_, sI tt_, sI d_, sI 0, sI d_, sU, sU, sU, sU, sU, sU] []))
      refine og (fun _ hr => XS.lloadN X116.here hx rfl (hb hby at_317) rfl (XS.iload X116.here hx rfl (hb hby at_318) rfl (XS.iconst X116.here hx rfl (hb hby at_320) (XS.isub X116.here hx rfl (hb hby at_321) rfl hr)))) ?_
      show oG p e below _ (T116.setTop (mkF m 322 #[sJ x0, sS, sI x1, sI x2, sI x3, sI nI_, sI ca_, sI cb_, sI cc_, sR b1, sR b5, sR b13, sR b22, sR rJ_, sR bJ_, sI tt_, sI d_, sI 0, sI d_, sU, sU, sU, sU, sU, sU] [(.int (d_ - (1 : Int32))), (.long x0)]))
      have hpk_ : ((Jvm.Free.SBG.digitsL nN_) - 1) < 19 := by omega
      have hb1_ : 1 < (Jvm.Free.SBG.digitsL nN_) := by have q := c163; simp only [Int32.lt_iff_toInt_lt, Int32.reduceToInt] at q; omega
      have Z165 := (Nat.le_trans Z0 Km.1)
      refine own_cs X116 hx hZ hown (hw _ (own_m 204 rfl)) (hw _ (own_m 205 rfl)) (hw _ (own_m 206 rfl)) (hw _ (own_m 207 rfl)) (by decide) (rm := { frames := 0, cells := 1, slots := 19, locals := 0 }) (rm_pow l Z a0 hw [] (d_ - (1 : Int32)) ((Jvm.Free.SBG.digitsL nN_) - 1) hm n0 Z165 (own_m19 hndN_ hdg_.2.2.1 (by omega)) hpk_) (by decide) (W := 2) (by decide) (by decide) (by decide) e116 (by rw [hml]; rfl) (argsL := [(.int (d_ - (1 : Int32)))]) (lenOf own_pd26 rfl) (rest := [(.long x0)]) rfl rfl (Nat.le_of_eq rfl) (hb hby at_322) ?_
      intro _ T164 L164 X164 hQ164
      obtain ⟨rfl, N164q, K164⟩ := hQ164
      have N164 := Fr.app Nm N164q
      show oG p e below _ (T164.setTop (mkF m 325 #[sJ x0, sS, sI x1, sI x2, sI x3, sI nI_, sI ca_, sI cb_, sI cc_, sR b1, sR b5, sR b13, sR b22, sR rJ_, sR bJ_, sI tt_, sI d_, sI 0, sI d_, sU, sU, sU, sU, sU, sU] [(.long (own_pw ((Jvm.Free.SBG.digitsL nN_) - 1))), (.long x0)]))
      refine og (fun _ hr => XS.lcmp X164.here hx rfl (hb hby at_325) rfl hr) ?_
      show oG p e below _ (T164.setTop (mkF m 326 #[sJ x0, sS, sI x1, sI x2, sI x3, sI nI_, sI ca_, sI cb_, sI cc_, sR b1, sR b5, sR b13, sR b22, sR rJ_, sR bJ_, sI tt_, sI d_, sI 0, sI d_, sU, sU, sU, sU, sU, sU] [(.int (lcmpW x0 (own_pw ((Jvm.Free.SBG.digitsL nN_) - 1))))]))
      have hk166 : ¬ ((lcmpW x0 (own_pw ((Jvm.Free.SBG.digitsL nN_) - 1))) < (0 : Int32)) := by
        have q := c_lcmp x0 (own_pw ((Jvm.Free.SBG.digitsL nN_) - 1))
        have e := own_pw_v ((Jvm.Free.SBG.digitsL nN_) - 1) hpk_
        have p1 : 0 < 10 ^ ((Jvm.Free.SBG.digitsL nN_) - 1) := Nat.pow_pos (by decide)
        have z := hdg_.2.1 (own_d0 (by omega))
        have y := hdg_.1
        simp only [Int32.lt_iff_toInt_lt, Int32.reduceToInt]
        omega
      refine og (fun _ hr => XS.ifYes X164.here hx rfl (pc0 := 326) (pc' := 331) rfl (hb hby at_326) rfl ((if0 _ _).trans (flt hk166).2.1) (by decide) (by decide) hr) ?_
      show oG p e below _ (T164.setTop (mkF m 331 #[sJ x0, sS, sI x1, sI x2, sI x3, sI nI_, sI ca_, sI cb_, sI cc_, sR b1, sR b5, sR b13, sR b22, sR rJ_, sR bJ_, sI tt_, sI d_, sI 0, sI d_, sU, sU, sU, sU, sU, sU] []))
      refine og (fun _ hr => XS.iload X164.here hx rfl (hb hby at_331) rfl (XS.bipush X164.here hx rfl (hb hby at_333) hr)) ?_
      show oG p e below _ (T164.setTop (mkF m 335 #[sJ x0, sS, sI x1, sI x2, sI x3, sI nI_, sI ca_, sI cb_, sI cc_, sR b1, sR b5, sR b13, sR b22, sR rJ_, sR bJ_, sI tt_, sI d_, sI 0, sI d_, sU, sU, sU, sU, sU, sU] [(.int 19), (.int d_)]))
      rcases Classical.em (d_ < (19 : Int32)) with c167 | c167
      · skip
        refine og (fun _ hr => XS.icmpNo X164.here hx rfl (hb hby at_335) rfl (tlt c167).2.1 hr) ?_
        show oG p e below _ (T164.setTop (mkF m 338 #[sJ x0, sS, sI x1, sI x2, sI x3, sI nI_, sI ca_, sI cb_, sI cc_, sR b1, sR b5, sR b13, sR b22, sR rJ_, sR bJ_, sI tt_, sI d_, sI 0, sI d_, sU, sU, sU, sU, sU, sU] []))
        refine og (fun _ hr => XS.lloadN X164.here hx rfl (hb hby at_338) rfl (XS.iload X164.here hx rfl (hb hby at_339) rfl hr)) ?_
        show oG p e below _ (T164.setTop (mkF m 341 #[sJ x0, sS, sI x1, sI x2, sI x3, sI nI_, sI ca_, sI cb_, sI cc_, sR b1, sR b5, sR b13, sR b22, sR rJ_, sR bJ_, sI tt_, sI d_, sI 0, sI d_, sU, sU, sU, sU, sU, sU] [(.int d_), (.long x0)]))
        have hpk_ : (Jvm.Free.SBG.digitsL nN_) < 19 := by have q := c167; simp only [Int32.lt_iff_toInt_lt, Int32.reduceToInt] at q; omega
        have Z169 := (Nat.le_trans Z165 K164.1)
        refine own_cs X164 hx hZ hown (hw _ (own_m 204 rfl)) (hw _ (own_m 205 rfl)) (hw _ (own_m 206 rfl)) (hw _ (own_m 207 rfl)) (by decide) (rm := { frames := 0, cells := 1, slots := 19, locals := 0 }) (rm_pow l Z a0 hw [] d_ (Jvm.Free.SBG.digitsL nN_) T164.heap n0 Z169 hndN_ hpk_) (by decide) (W := 2) (by decide) (by decide) (by decide) rfl (by rw [hml]; rfl) (argsL := [(.int d_)]) (lenOf own_pd26 rfl) (rest := [(.long x0)]) rfl rfl (Nat.le_of_eq rfl) (hb hby at_341) ?_
        intro _ T168 L168 X168 hQ168
        obtain ⟨rfl, N168q, K168⟩ := hQ168
        have N168 := Fr.app N164 N168q
        show oG p e below _ (T168.setTop (mkF m 344 #[sJ x0, sS, sI x1, sI x2, sI x3, sI nI_, sI ca_, sI cb_, sI cc_, sR b1, sR b5, sR b13, sR b22, sR rJ_, sR bJ_, sI tt_, sI d_, sI 0, sI d_, sU, sU, sU, sU, sU, sU] [(.long (own_pw (Jvm.Free.SBG.digitsL nN_))), (.long x0)]))
        refine og (fun _ hr => XS.lcmp X168.here hx rfl (hb hby at_344) rfl hr) ?_
        show oG p e below _ (T168.setTop (mkF m 345 #[sJ x0, sS, sI x1, sI x2, sI x3, sI nI_, sI ca_, sI cb_, sI cc_, sR b1, sR b5, sR b13, sR b22, sR rJ_, sR bJ_, sI tt_, sI d_, sI 0, sI d_, sU, sU, sU, sU, sU, sU] [(.int (lcmpW x0 (own_pw (Jvm.Free.SBG.digitsL nN_))))]))
        have hk170 : (lcmpW x0 (own_pw (Jvm.Free.SBG.digitsL nN_))) < (0 : Int32) := by
          have q := c_lcmp x0 (own_pw (Jvm.Free.SBG.digitsL nN_))
          have e := own_pw_v (Jvm.Free.SBG.digitsL nN_) hpk_
          have p1 : 0 < 10 ^ (Jvm.Free.SBG.digitsL nN_) := Nat.pow_pos (by decide)
          have y := hdg_.1
          simp only [Int32.lt_iff_toInt_lt, Int32.reduceToInt]
          omega
        refine og (fun _ hr => XS.ifYes X168.here hx rfl (pc0 := 345) (pc' := 391) rfl (hb hby at_345) rfl ((if0 _ _).trans (tlt hk170).1) (by decide) (by decide) hr) ?_
        show oG p e below _ (T168.setTop (mkF m 391 #[sJ x0, sS, sI x1, sI x2, sI x3, sI nI_, sI ca_, sI cb_, sI cc_, sR b1, sR b5, sR b13, sR b22, sR rJ_, sR bJ_, sI tt_, sI d_, sI 0, sI d_, sU, sU, sU, sU, sU, sU] []))
        exact jH_ T168 _ T168.heap (X168.mono (by decide) (by decide)) N168 rfl (((Keep.refl _ _).trans K164 all0).trans K168 all0)
      refine og (fun _ hr => XS.icmpYes X164.here hx rfl (pc0 := 335) (pc' := 391) rfl (hb hby at_335) rfl (flt c167).2.1 (by decide) (by decide) hr) ?_
      show oG p e below _ (T164.setTop (mkF m 391 #[sJ x0, sS, sI x1, sI x2, sI x3, sI nI_, sI ca_, sI cb_, sI cc_, sR b1, sR b5, sR b13, sR b22, sR rJ_, sR bJ_, sI tt_, sI d_, sI 0, sI d_, sU, sU, sU, sU, sU, sU] []))
      exact jH_ T164 _ T164.heap (X164.mono (by decide) (by decide)) N164 rfl ((Keep.refl _ _).trans K164 all0)
    refine og (fun _ hr => XS.icmpYes X116.here hx rfl (pc0 := 314) (pc' := 331) rfl (hb hby at_314) rfl (flt c163).2.2.2 (by decide) (by decide) hr) ?_
    show oG p e below _ (T116.setTop (mkF m 331 #[sJ x0, sS, sI x1, sI x2, sI x3, sI nI_, sI ca_, sI cb_, sI cc_, sR b1, sR b5, sR b13, sR b22, sR rJ_, sR bJ_, sI tt_, sI d_, sI 0, sI d_, sU, sU, sU, sU, sU, sU] []))
    refine og (fun _ hr => XS.iload X116.here hx rfl (hb hby at_331) rfl (XS.bipush X116.here hx rfl (hb hby at_333) hr)) ?_
    show oG p e below _ (T116.setTop (mkF m 335 #[sJ x0, sS, sI x1, sI x2, sI x3, sI nI_, sI ca_, sI cb_, sI cc_, sR b1, sR b5, sR b13, sR b22, sR rJ_, sR bJ_, sI tt_, sI d_, sI 0, sI d_, sU, sU, sU, sU, sU, sU] [(.int 19), (.int d_)]))
    rcases Classical.em (d_ < (19 : Int32)) with c171 | c171
    · skip
      refine og (fun _ hr => XS.icmpNo X116.here hx rfl (hb hby at_335) rfl (tlt c171).2.1 hr) ?_
      show oG p e below _ (T116.setTop (mkF m 338 #[sJ x0, sS, sI x1, sI x2, sI x3, sI nI_, sI ca_, sI cb_, sI cc_, sR b1, sR b5, sR b13, sR b22, sR rJ_, sR bJ_, sI tt_, sI d_, sI 0, sI d_, sU, sU, sU, sU, sU, sU] []))
      refine og (fun _ hr => XS.lloadN X116.here hx rfl (hb hby at_338) rfl (XS.iload X116.here hx rfl (hb hby at_339) rfl hr)) ?_
      show oG p e below _ (T116.setTop (mkF m 341 #[sJ x0, sS, sI x1, sI x2, sI x3, sI nI_, sI ca_, sI cb_, sI cc_, sR b1, sR b5, sR b13, sR b22, sR rJ_, sR bJ_, sI tt_, sI d_, sI 0, sI d_, sU, sU, sU, sU, sU, sU] [(.int d_), (.long x0)]))
      have hpk_ : (Jvm.Free.SBG.digitsL nN_) < 19 := by have q := c171; simp only [Int32.lt_iff_toInt_lt, Int32.reduceToInt] at q; omega
      have Z173 := (Nat.le_trans Z0 Km.1)
      refine own_cs X116 hx hZ hown (hw _ (own_m 204 rfl)) (hw _ (own_m 205 rfl)) (hw _ (own_m 206 rfl)) (hw _ (own_m 207 rfl)) (by decide) (rm := { frames := 0, cells := 1, slots := 19, locals := 0 }) (rm_pow l Z a0 hw [] d_ (Jvm.Free.SBG.digitsL nN_) hm n0 Z173 hndN_ hpk_) (by decide) (W := 2) (by decide) (by decide) (by decide) e116 (by rw [hml]; rfl) (argsL := [(.int d_)]) (lenOf own_pd26 rfl) (rest := [(.long x0)]) rfl rfl (Nat.le_of_eq rfl) (hb hby at_341) ?_
      intro _ T172 L172 X172 hQ172
      obtain ⟨rfl, N172q, K172⟩ := hQ172
      have N172 := Fr.app Nm N172q
      show oG p e below _ (T172.setTop (mkF m 344 #[sJ x0, sS, sI x1, sI x2, sI x3, sI nI_, sI ca_, sI cb_, sI cc_, sR b1, sR b5, sR b13, sR b22, sR rJ_, sR bJ_, sI tt_, sI d_, sI 0, sI d_, sU, sU, sU, sU, sU, sU] [(.long (own_pw (Jvm.Free.SBG.digitsL nN_))), (.long x0)]))
      refine og (fun _ hr => XS.lcmp X172.here hx rfl (hb hby at_344) rfl hr) ?_
      show oG p e below _ (T172.setTop (mkF m 345 #[sJ x0, sS, sI x1, sI x2, sI x3, sI nI_, sI ca_, sI cb_, sI cc_, sR b1, sR b5, sR b13, sR b22, sR rJ_, sR bJ_, sI tt_, sI d_, sI 0, sI d_, sU, sU, sU, sU, sU, sU] [(.int (lcmpW x0 (own_pw (Jvm.Free.SBG.digitsL nN_))))]))
      have hk174 : (lcmpW x0 (own_pw (Jvm.Free.SBG.digitsL nN_))) < (0 : Int32) := by
        have q := c_lcmp x0 (own_pw (Jvm.Free.SBG.digitsL nN_))
        have e := own_pw_v (Jvm.Free.SBG.digitsL nN_) hpk_
        have p1 : 0 < 10 ^ (Jvm.Free.SBG.digitsL nN_) := Nat.pow_pos (by decide)
        have y := hdg_.1
        simp only [Int32.lt_iff_toInt_lt, Int32.reduceToInt]
        omega
      refine og (fun _ hr => XS.ifYes X172.here hx rfl (pc0 := 345) (pc' := 391) rfl (hb hby at_345) rfl ((if0 _ _).trans (tlt hk174).1) (by decide) (by decide) hr) ?_
      show oG p e below _ (T172.setTop (mkF m 391 #[sJ x0, sS, sI x1, sI x2, sI x3, sI nI_, sI ca_, sI cb_, sI cc_, sR b1, sR b5, sR b13, sR b22, sR rJ_, sR bJ_, sI tt_, sI d_, sI 0, sI d_, sU, sU, sU, sU, sU, sU] []))
      exact jH_ T172 _ T172.heap (X172.mono (by decide) (by decide)) N172 rfl ((Keep.refl _ _).trans K172 all0)
    refine og (fun _ hr => XS.icmpYes X116.here hx rfl (pc0 := 335) (pc' := 391) rfl (hb hby at_335) rfl (flt c171).2.1 (by decide) (by decide) hr) ?_
    show oG p e below _ (T116.setTop (mkF m 391 #[sJ x0, sS, sI x1, sI x2, sI x3, sI nI_, sI ca_, sI cb_, sI cc_, sR b1, sR b5, sR b13, sR b22, sR rJ_, sR bJ_, sI tt_, sI d_, sI 0, sI d_, sU, sU, sU, sU, sU, sU] []))
    exact jH_ T116 _ hm (X116.mono (by decide) (by decide)) Nm e116 (Keep.refl _ _)
  show oG p e below _ (T30.setTop (mkF m 85 #[sJ x0, sS, sI x1, sI x2, sI x3, sI (x2 &&& (3 : Int32)), sI ca_, sI cb_, sI cc_, sR b1, sR b5, sR b13, sR b22, sU, sU, sU, sU, sU, sU, sU, sU, sU, sU, sU, sU] []))
  rcases Classical.em ((x2 &&& (3 : Int32)) = (3 : Int32)) with c175 | c175
  · rw [c175]
    show oG p e below _ (T30.setTop (mkF m 85 #[sJ x0, sS, sI x1, sI x2, sI x3, sI 3, sI ca_, sI cb_, sI cc_, sR b1, sR b5, sR b13, sR b22, sU, sU, sU, sU, sU, sU, sU, sU, sU, sU, sU, sU] []))
    refine og (fun _ hr => XS.iload X30.here hx rfl (hb hby at_85) rfl (XS.ifYes X30.here hx rfl (pc0 := 87) (pc' := 104) rfl (hb hby at_87) rfl ((if0 _ _).trans (feq (by decide)).2) (by decide) (by decide) (XS.iload X30.here hx rfl (hb hby at_104) rfl (XS.iconst X30.here hx rfl (hb hby at_106) (XS.icmpYes X30.here hx rfl (pc0 := 107) (pc' := 124) rfl (hb hby at_107) rfl (feq (by decide)).2 (by decide) (by decide) (XS.iload X30.here hx rfl (hb hby at_124) rfl (XS.iconst X30.here hx rfl (hb hby at_126) (XS.icmpYes X30.here hx rfl (pc0 := 127) (pc' := 144) rfl (hb hby at_127) rfl (feq (by decide)).2 (by decide) (by decide) hr)))))))) ?_
    show oG p e below _ (T30.setTop (mkF m 144 #[sJ x0, sS, sI x1, sI x2, sI x3, sI 3, sI ca_, sI cb_, sI cc_, sR b1, sR b5, sR b13, sR b22, sU, sU, sU, sU, sU, sU, sU, sU, sU, sU, sU, sU] []))
    obtain ⟨T176, h176, X176, e176, E176, A176, D176, -, st176⟩ := newO X30 hx hZ hown (hw _ (own_m 1 rfl)) (hw _ (own_m 2 rfl)) (hw _ (own_m 3 rfl)) e30 (g := (mkF m 144 #[sJ x0, sS, sI x1, sI x2, sI x3, sI 3, sI ca_, sI cb_, sI cc_, sR b1, sR b5, sR b13, sR b22, sU, sU, sU, sU, sU, sU, sU, sU, sU, sU, sU, sU] [])) rfl (hb hby at_144) (by decide) (by decide)
    obtain ⟨b176, g176⟩ : ∃ z, z = h30.size := ⟨_, rfl⟩
    rw [← g176] at A176 D176 st176
    have Z177 := (Nat.le_trans (Nat.le_trans (Nat.le_trans (Nat.le_trans Z23 E22.1) (Nat.le_of_eq W28.size.symm)) (Nat.le_of_eq W29.size.symm)) (Nat.le_of_eq W30.size.symm))
    have ge178 : n0 ≤ b176 := Nat.le_trans Z177 (Nat.le_of_eq g176.symm)
    have K179 := ((((K25.ext E22).wr W28 (Or.inr sz26)).wr W29 (Or.inr sz26)).wr W30 (Or.inr sz26))
    have sz180 : h0.size ≤ b176 := Nat.le_trans K179.1 (Nat.le_of_eq g176.symm)
    refine og st176 ?_
    have f181 : Fld Z h176 b176 "java/lang/String" "coder" "B" (.int 0) := D176 (Or.inr (hw _ (own_m 27 rfl))) (ty := .byte) (by decide)
    have f182 : Fld Z h176 b176 "java/lang/String" "value" "[B" .null := D176 (Or.inr (hw _ (own_m 29 rfl))) (ty := (.array .byte)) (by decide)
    show oG p e below _ (T176.setTop (mkF m 147 #[sJ x0, sS, sI x1, sI x2, sI x3, sI 3, sI ca_, sI cb_, sI cc_, sR b1, sR b5, sR b13, sR b22, sU, sU, sU, sU, sU, sU, sU, sU, sU, sU, sU, sU] [(.ref b176)]))
    refine og (fun _ hr => XS.dup X176.here hx rfl (hb hby at_147) rfl rfl (XS.aload X176.here hx rfl (hb hby at_148) rfl rfl hr)) ?_
    show oG p e below _ (T176.setTop (mkF m 150 #[sJ x0, sS, sI x1, sI x2, sI x3, sI 3, sI ca_, sI cb_, sI cc_, sR b1, sR b5, sR b13, sR b22, sU, sU, sU, sU, sU, sU, sU, sU, sU, sU, sU, sU] [(.ref b22), (.ref b176), (.ref b176)]))
    have c184 : ¬ (cc_ < (0 : Int32)) := by
      have q0 := rng32 x1
      have q1 := c_mask x1 (255 : Int32) 8 (by decide) (by decide)
      have q2 := c_i2c (x1 &&& (255 : Int32))
      have q3 := congrArg Int32.toInt hca_
      have q4 := (show ((nar .char ca_).toInt - ca_.toInt) % 65536 = 0 ∧ 0 ≤ (nar .char ca_).toInt ∧ (nar .char ca_).toInt < 65536 from c_i2c ca_)
      have q5 := c_iushr x1 (8 : Int32) 8 (by decide) (by decide)
      have q6 := c_mask ((x1.toUInt32 >>> ((8 : Int32) &&& 31).toUInt32).toInt32) (255 : Int32) 8 (by decide) (by decide)
      have q7 := c_i2c (((x1.toUInt32 >>> ((8 : Int32) &&& 31).toUInt32).toInt32) &&& (255 : Int32))
      have q8 := congrArg Int32.toInt hcb_
      have q9 := (show ((nar .char cb_).toInt - cb_.toInt) % 65536 = 0 ∧ 0 ≤ (nar .char cb_).toInt ∧ (nar .char cb_).toInt < 65536 from c_i2c cb_)
      have q10 := c_iushr x1 (16 : Int32) 16 (by decide) (by decide)
      have q11 := c_mask ((x1.toUInt32 >>> ((16 : Int32) &&& 31).toUInt32).toInt32) (255 : Int32) 8 (by decide) (by decide)
      have q12 := c_i2c (((x1.toUInt32 >>> ((16 : Int32) &&& 31).toUInt32).toInt32) &&& (255 : Int32))
      have q13 := congrArg Int32.toInt hcc_
      have q14 := (show ((nar .char cc_).toInt - cc_.toInt) % 65536 = 0 ∧ 0 ≤ (nar .char cc_).toInt ∧ (nar .char cc_).toInt < 65536 from c_i2c cc_)
      have p0 := c12
      have p1 := c21
      have p2 := c31
      simp only [true_implies, Int32.lt_iff_toInt_lt, ← Int32.toInt_inj, Int32.reduceToInt, Int64.lt_iff_toInt_lt, ← Int64.toInt_inj, Int64.reduceToInt] at q0 q1 q2 q3 q4 q5 q6 q7 q8 q9 q10 q11 q12 q13 q14 p0 p1 p2 ⊢
      omega
    have c185 : ¬ ((255 : Int32) < cc_) := by
      have q0 := rng32 x1
      have q1 := c_mask x1 (255 : Int32) 8 (by decide) (by decide)
      have q2 := c_i2c (x1 &&& (255 : Int32))
      have q3 := congrArg Int32.toInt hca_
      have q4 := (show ((nar .char ca_).toInt - ca_.toInt) % 65536 = 0 ∧ 0 ≤ (nar .char ca_).toInt ∧ (nar .char ca_).toInt < 65536 from c_i2c ca_)
      have q5 := c_iushr x1 (8 : Int32) 8 (by decide) (by decide)
      have q6 := c_mask ((x1.toUInt32 >>> ((8 : Int32) &&& 31).toUInt32).toInt32) (255 : Int32) 8 (by decide) (by decide)
      have q7 := c_i2c (((x1.toUInt32 >>> ((8 : Int32) &&& 31).toUInt32).toInt32) &&& (255 : Int32))
      have q8 := congrArg Int32.toInt hcb_
      have q9 := (show ((nar .char cb_).toInt - cb_.toInt) % 65536 = 0 ∧ 0 ≤ (nar .char cb_).toInt ∧ (nar .char cb_).toInt < 65536 from c_i2c cb_)
      have q10 := c_iushr x1 (16 : Int32) 16 (by decide) (by decide)
      have q11 := c_mask ((x1.toUInt32 >>> ((16 : Int32) &&& 31).toUInt32).toInt32) (255 : Int32) 8 (by decide) (by decide)
      have q12 := c_i2c (((x1.toUInt32 >>> ((16 : Int32) &&& 31).toUInt32).toInt32) &&& (255 : Int32))
      have q13 := congrArg Int32.toInt hcc_
      have q14 := (show ((nar .char cc_).toInt - cc_.toInt) % 65536 = 0 ∧ 0 ≤ (nar .char cc_).toInt ∧ (nar .char cc_).toInt < 65536 from c_i2c cc_)
      have p0 := c12
      have p1 := c21
      have p2 := c31
      have p3 := c184
      simp only [true_implies, Int32.lt_iff_toInt_lt, ← Int32.toInt_inj, Int32.reduceToInt, Int64.lt_iff_toInt_lt, ← Int64.toInt_inj, Int64.reduceToInt] at q0 q1 q2 q3 q4 q5 q6 q7 q8 q9 q10 q11 q12 q13 q14 p0 p1 p2 p3 ⊢
      omega
    have c186 : ¬ (cb_ < (0 : Int32)) := by
      have q0 := rng32 x1
      have q1 := c_mask x1 (255 : Int32) 8 (by decide) (by decide)
      have q2 := c_i2c (x1 &&& (255 : Int32))
      have q3 := congrArg Int32.toInt hca_
      have q4 := (show ((nar .char ca_).toInt - ca_.toInt) % 65536 = 0 ∧ 0 ≤ (nar .char ca_).toInt ∧ (nar .char ca_).toInt < 65536 from c_i2c ca_)
      have q5 := c_iushr x1 (8 : Int32) 8 (by decide) (by decide)
      have q6 := c_mask ((x1.toUInt32 >>> ((8 : Int32) &&& 31).toUInt32).toInt32) (255 : Int32) 8 (by decide) (by decide)
      have q7 := c_i2c (((x1.toUInt32 >>> ((8 : Int32) &&& 31).toUInt32).toInt32) &&& (255 : Int32))
      have q8 := congrArg Int32.toInt hcb_
      have q9 := (show ((nar .char cb_).toInt - cb_.toInt) % 65536 = 0 ∧ 0 ≤ (nar .char cb_).toInt ∧ (nar .char cb_).toInt < 65536 from c_i2c cb_)
      have q10 := c_iushr x1 (16 : Int32) 16 (by decide) (by decide)
      have q11 := c_mask ((x1.toUInt32 >>> ((16 : Int32) &&& 31).toUInt32).toInt32) (255 : Int32) 8 (by decide) (by decide)
      have q12 := c_i2c (((x1.toUInt32 >>> ((16 : Int32) &&& 31).toUInt32).toInt32) &&& (255 : Int32))
      have q13 := congrArg Int32.toInt hcc_
      have q14 := (show ((nar .char cc_).toInt - cc_.toInt) % 65536 = 0 ∧ 0 ≤ (nar .char cc_).toInt ∧ (nar .char cc_).toInt < 65536 from c_i2c cc_)
      have p0 := c12
      have p1 := c21
      have p2 := c31
      have p3 := c184
      have p4 := c185
      simp only [true_implies, Int32.lt_iff_toInt_lt, ← Int32.toInt_inj, Int32.reduceToInt, Int64.lt_iff_toInt_lt, ← Int64.toInt_inj, Int64.reduceToInt] at q0 q1 q2 q3 q4 q5 q6 q7 q8 q9 q10 q11 q12 q13 q14 p0 p1 p2 p3 p4 ⊢
      omega
    have c187 : ¬ ((255 : Int32) < cb_) := by
      have q0 := rng32 x1
      have q1 := c_mask x1 (255 : Int32) 8 (by decide) (by decide)
      have q2 := c_i2c (x1 &&& (255 : Int32))
      have q3 := congrArg Int32.toInt hca_
      have q4 := (show ((nar .char ca_).toInt - ca_.toInt) % 65536 = 0 ∧ 0 ≤ (nar .char ca_).toInt ∧ (nar .char ca_).toInt < 65536 from c_i2c ca_)
      have q5 := c_iushr x1 (8 : Int32) 8 (by decide) (by decide)
      have q6 := c_mask ((x1.toUInt32 >>> ((8 : Int32) &&& 31).toUInt32).toInt32) (255 : Int32) 8 (by decide) (by decide)
      have q7 := c_i2c (((x1.toUInt32 >>> ((8 : Int32) &&& 31).toUInt32).toInt32) &&& (255 : Int32))
      have q8 := congrArg Int32.toInt hcb_
      have q9 := (show ((nar .char cb_).toInt - cb_.toInt) % 65536 = 0 ∧ 0 ≤ (nar .char cb_).toInt ∧ (nar .char cb_).toInt < 65536 from c_i2c cb_)
      have q10 := c_iushr x1 (16 : Int32) 16 (by decide) (by decide)
      have q11 := c_mask ((x1.toUInt32 >>> ((16 : Int32) &&& 31).toUInt32).toInt32) (255 : Int32) 8 (by decide) (by decide)
      have q12 := c_i2c (((x1.toUInt32 >>> ((16 : Int32) &&& 31).toUInt32).toInt32) &&& (255 : Int32))
      have q13 := congrArg Int32.toInt hcc_
      have q14 := (show ((nar .char cc_).toInt - cc_.toInt) % 65536 = 0 ∧ 0 ≤ (nar .char cc_).toInt ∧ (nar .char cc_).toInt < 65536 from c_i2c cc_)
      have p0 := c12
      have p1 := c21
      have p2 := c31
      have p3 := c184
      have p4 := c185
      have p5 := c186
      simp only [true_implies, Int32.lt_iff_toInt_lt, ← Int32.toInt_inj, Int32.reduceToInt, Int64.lt_iff_toInt_lt, ← Int64.toInt_inj, Int64.reduceToInt] at q0 q1 q2 q3 q4 q5 q6 q7 q8 q9 q10 q11 q12 q13 q14 p0 p1 p2 p3 p4 p5 ⊢
      omega
    have c188 : ¬ (ca_ < (0 : Int32)) := by
      have q0 := rng32 x1
      have q1 := c_mask x1 (255 : Int32) 8 (by decide) (by decide)
      have q2 := c_i2c (x1 &&& (255 : Int32))
      have q3 := congrArg Int32.toInt hca_
      have q4 := (show ((nar .char ca_).toInt - ca_.toInt) % 65536 = 0 ∧ 0 ≤ (nar .char ca_).toInt ∧ (nar .char ca_).toInt < 65536 from c_i2c ca_)
      have q5 := c_iushr x1 (8 : Int32) 8 (by decide) (by decide)
      have q6 := c_mask ((x1.toUInt32 >>> ((8 : Int32) &&& 31).toUInt32).toInt32) (255 : Int32) 8 (by decide) (by decide)
      have q7 := c_i2c (((x1.toUInt32 >>> ((8 : Int32) &&& 31).toUInt32).toInt32) &&& (255 : Int32))
      have q8 := congrArg Int32.toInt hcb_
      have q9 := (show ((nar .char cb_).toInt - cb_.toInt) % 65536 = 0 ∧ 0 ≤ (nar .char cb_).toInt ∧ (nar .char cb_).toInt < 65536 from c_i2c cb_)
      have q10 := c_iushr x1 (16 : Int32) 16 (by decide) (by decide)
      have q11 := c_mask ((x1.toUInt32 >>> ((16 : Int32) &&& 31).toUInt32).toInt32) (255 : Int32) 8 (by decide) (by decide)
      have q12 := c_i2c (((x1.toUInt32 >>> ((16 : Int32) &&& 31).toUInt32).toInt32) &&& (255 : Int32))
      have q13 := congrArg Int32.toInt hcc_
      have q14 := (show ((nar .char cc_).toInt - cc_.toInt) % 65536 = 0 ∧ 0 ≤ (nar .char cc_).toInt ∧ (nar .char cc_).toInt < 65536 from c_i2c cc_)
      have p0 := c12
      have p1 := c21
      have p2 := c31
      have p3 := c184
      have p4 := c185
      have p5 := c186
      have p6 := c187
      simp only [true_implies, Int32.lt_iff_toInt_lt, ← Int32.toInt_inj, Int32.reduceToInt, Int64.lt_iff_toInt_lt, ← Int64.toInt_inj, Int64.reduceToInt] at q0 q1 q2 q3 q4 q5 q6 q7 q8 q9 q10 q11 q12 q13 q14 p0 p1 p2 p3 p4 p5 p6 ⊢
      omega
    have c189 : ¬ ((255 : Int32) < ca_) := by
      have q0 := rng32 x1
      have q1 := c_mask x1 (255 : Int32) 8 (by decide) (by decide)
      have q2 := c_i2c (x1 &&& (255 : Int32))
      have q3 := congrArg Int32.toInt hca_
      have q4 := (show ((nar .char ca_).toInt - ca_.toInt) % 65536 = 0 ∧ 0 ≤ (nar .char ca_).toInt ∧ (nar .char ca_).toInt < 65536 from c_i2c ca_)
      have q5 := c_iushr x1 (8 : Int32) 8 (by decide) (by decide)
      have q6 := c_mask ((x1.toUInt32 >>> ((8 : Int32) &&& 31).toUInt32).toInt32) (255 : Int32) 8 (by decide) (by decide)
      have q7 := c_i2c (((x1.toUInt32 >>> ((8 : Int32) &&& 31).toUInt32).toInt32) &&& (255 : Int32))
      have q8 := congrArg Int32.toInt hcb_
      have q9 := (show ((nar .char cb_).toInt - cb_.toInt) % 65536 = 0 ∧ 0 ≤ (nar .char cb_).toInt ∧ (nar .char cb_).toInt < 65536 from c_i2c cb_)
      have q10 := c_iushr x1 (16 : Int32) 16 (by decide) (by decide)
      have q11 := c_mask ((x1.toUInt32 >>> ((16 : Int32) &&& 31).toUInt32).toInt32) (255 : Int32) 8 (by decide) (by decide)
      have q12 := c_i2c (((x1.toUInt32 >>> ((16 : Int32) &&& 31).toUInt32).toInt32) &&& (255 : Int32))
      have q13 := congrArg Int32.toInt hcc_
      have q14 := (show ((nar .char cc_).toInt - cc_.toInt) % 65536 = 0 ∧ 0 ≤ (nar .char cc_).toInt ∧ (nar .char cc_).toInt < 65536 from c_i2c cc_)
      have p0 := c12
      have p1 := c21
      have p2 := c31
      have p3 := c184
      have p4 := c185
      have p5 := c186
      have p6 := c187
      have p7 := c188
      simp only [true_implies, Int32.lt_iff_toInt_lt, ← Int32.toInt_inj, Int32.reduceToInt, Int64.lt_iff_toInt_lt, ← Int64.toInt_inj, Int64.reduceToInt] at q0 q1 q2 q3 q4 q5 q6 q7 q8 q9 q10 q11 q12 q13 q14 p0 p1 p2 p3 p4 p5 p6 p7 ⊢
      omega
    have hp183 : ∀ c ∈ ([ca_, cb_, cc_] : List Int32), ¬ c < 0 ∧ ¬ (255 : Int32) < c := (own_lc ⟨c188, c189⟩ (own_lc ⟨c186, c187⟩ (own_lc ⟨c184, c185⟩ own_ln)))
    have f190 := (f30.ext E176)
    have K191 := (K179.ext E176)
    have f192 := (own_sta_keep S_COMPACT_STRINGS K191 all0)
    have Z193 := (Nat.le_trans Z177 E176.1)
    refine own_newS X176 hx hZ hown hw (hw _ (own_m 4 rfl)) (hw _ (own_m 5 rfl)) (hw _ (own_m 6 rfl)) (hw _ (own_m 2 rfl)) [ca_, cb_, cc_] ge178 Z193 A176 f182 f181 f190 f192 hs_COMPACT_STRINGS (n := 3) rfl rfl (by decide) (by decide) hp183 (by decide) (W := 1) (by decide) (by decide) (by decide) e176 (by rw [hml]; rfl) (Nat.le_of_eq rfl) (hb hby at_150) ?_
    intro T183 L183 b183_0 kb183_0 X183 N183q K183 f183_0 f183_1 ge183_0 sz183_0 ne183_0 f183_2 f183_3
    have N183 := Fr.app N30 N183q
    have sz194 : h0.size ≤ b183_0 := Nat.le_trans K191.1 sz183_0
    show oG p e below _ (T183.setTop (mkF m 153 #[sJ x0, sS, sI x1, sI x2, sI x3, sI 3, sI ca_, sI cb_, sI cc_, sR b1, sR b5, sR b13, sR b22, sU, sU, sU, sU, sU, sU, sU, sU, sU, sU, sU, sU] [(.ref b176)]))
    refine og (fun _ hr => XS.astore X183.here hx rfl (hb hby at_153) rfl rfl (l' := #[sJ x0, sS, sI x1, sI x2, sI x3, sI 3, sI ca_, sI cb_, sI cc_, sR b1, sR b5, sR b13, sR b22, sR b176, sU, sU, sU, sU, sU, sU, sU, sU, sU, sU, sU]) rfl hr) ?_
    show oG p e below _ (T183.setTop (mkF m 155 #[sJ x0, sS, sI x1, sI x2, sI x3, sI 3, sI ca_, sI cb_, sI cc_, sR b1, sR b5, sR b13, sR b22, sR b176, sU, sU, sU, sU, sU, sU, sU, sU, sU, sU, sU] []))
    obtain ⟨T195, h195, X195, e195, E195, A195, D195, -, st195⟩ := newO X183 hx hZ hown (hw _ (own_m 30 rfl)) (hw _ (own_m 31 rfl)) (hw _ (own_m 32 rfl)) rfl (g := (mkF m 155 #[sJ x0, sS, sI x1, sI x2, sI x3, sI 3, sI ca_, sI cb_, sI cc_, sR b1, sR b5, sR b13, sR b22, sR b176, sU, sU, sU, sU, sU, sU, sU, sU, sU, sU, sU] [])) rfl (hb hby at_155) (by decide) (by decide)
    obtain ⟨b195, g195⟩ : ∃ z, z = T183.heap.size := ⟨_, rfl⟩
    rw [← g195] at A195 D195 st195
    have Z196 := (Nat.le_trans Z193 K183.1)
    have ge197 : n0 ≤ b195 := Nat.le_trans Z196 (Nat.le_of_eq g195.symm)
    have K198 := (K191.trans K183 (allS (Or.inr sz180) all0))
    have sz199 : h0.size ≤ b195 := Nat.le_trans K198.1 (Nat.le_of_eq g195.symm)
    refine og st195 ?_
    have f200 : Fld Z h195 b195 "com/example/strict_tariff/stricttariff/pricing/RefusedReading" "line" "J" (.long (0 : Int64)) := D195 (Or.inr (hw _ (own_m 38 rfl))) (ty := .long) (by decide)
    have f201 : Fld Z h195 b195 "com/example/strict_tariff/stricttariff/pricing/RefusedReading" "reason" "Ljava/lang/String;" .null := D195 (Or.inr (hw _ (own_m 40 rfl))) (ty := (.object "java/lang/String")) (by decide)
    show oG p e below _ (T195.setTop (mkF m 158 #[sJ x0, sS, sI x1, sI x2, sI x3, sI 3, sI ca_, sI cb_, sI cc_, sR b1, sR b5, sR b13, sR b22, sR b176, sU, sU, sU, sU, sU, sU, sU, sU, sU, sU, sU] [(.ref b195)]))
    refine og (fun _ hr => XS.dup X195.here hx rfl (hb hby at_158) rfl rfl (XS.lloadN X195.here hx rfl (hb hby at_159) rfl (XS.aload X195.here hx rfl (hb hby at_160) rfl rfl hr))) ?_
    show oG p e below _ (T195.setTop (mkF m 162 #[sJ x0, sS, sI x1, sI x2, sI x3, sI 3, sI ca_, sI cb_, sI cc_, sR b1, sR b5, sR b13, sR b22, sR b176, sU, sU, sU, sU, sU, sU, sU, sU, sU, sU, sU] [(.ref b176), (.long x0), (.ref b195), (.ref b195)]))
    have Z203 := (Nat.le_trans Z196 E195.1)
    refine own_cp X195 hx hZ hown rfl (hw _ (own_m 33 rfl)) (hw _ (own_m 34 rfl)) (hw _ (own_m 32 rfl)) (hw _ (own_m 35 rfl)) (by decide) (rm := { frames := 1, cells := 0, slots := 0, locals := 12 }) (rm_init_13 l Z a0 hw [] b195 x0 b176 h195 n0 Z203 A195 f200 f201 ge197) (by decide) (W := 1) (by decide) (by decide) (by decide) e195 (by rw [hml]; rfl) (argsL := [(.long x0), (.ref b176)]) (lenOf own_pd27 rfl) (rest := [(.ref b195)]) rfl rfl (Nat.le_of_eq rfl) (hb hby at_162) ?_
    intro _ T202 L202 X202 hQ202
    obtain ⟨rfl, N202q, K202, f202_0, f202_1⟩ := hQ202
    have N202 := Fr.app N183 N202q
    show oG p e below _ (T202.setTop (mkF m 165 #[sJ x0, sS, sI x1, sI x2, sI x3, sI 3, sI ca_, sI cb_, sI cc_, sR b1, sR b5, sR b13, sR b22, sR b176, sU, sU, sU, sU, sU, sU, sU, sU, sU, sU, sU] [(.ref b195)]))
    have K204 := ((K198.ext E195).trans K202 (allS (Or.inr sz199) all0))
    have f205 := ((f183_3.ext E195).keep K202 (ninS (Nat.ne_of_lt (Nat.lt_of_lt_of_le f183_3.lt (Nat.le_of_eq g195.symm))) nin0))
    have f206 : Arv Z T202.heap b183_0 kb183_0 .byte (3 : Int32) (own_lb [ca_, cb_, cc_]) (.int 0) := f205
    have hla207 : ∀ c ∈ [ca_, cb_, cc_], ¬ c < 0 ∧ ¬ (255 : Int32) < c := (own_lc ⟨c188, c189⟩ (own_lc ⟨c186, c187⟩ (own_lc ⟨c184, c185⟩ own_ln)))
    have f209 := (A195.keep K202)
    have f210 := ((f183_0.ext E195).keep K202)
    have f211 := ((f183_1.ext E195).keep K202 (ninS (Nat.ne_of_lt (Nat.lt_of_lt_of_le f183_0.lt (Nat.le_of_eq g195.symm))) nin0))
    have f212 := ((f183_2.ext E195).keep K202 (ninS (Nat.ne_of_lt (Nat.lt_of_lt_of_le f183_0.lt (Nat.le_of_eq g195.symm))) nin0))
    have f213 := (own_sta_keep ((own_sta_keep f192 K183 (allS (own_ns_exa A176) all0)).ext E195) K202 (allS (own_ns_exa A195) all0))
    have Z214 := (Nat.le_trans Z203 K202.1)
    have hZo215 := hZ
    have A216 := A0.trans (CHr.ext E1 A0.1)
    have A217 := A216.trans (CHr.ext E5 A216.1)
    have sf219 := (Safe.ext E5 A216.1 (Safe.new (Nat.le_of_eq g5.symm)))
    have A218 := A217.trans (CHr.wr W11 sf219 A217.1)
    have A220 := A218.trans (CHr.ext E13 A218.1)
    have sf222 := (Safe.ext E13 A218.1 (Safe.new (Nat.le_of_eq g13.symm)))
    have A221 := A220.trans (CHr.wr W19 sf222 A220.1)
    have sf224 := (Safe.wr W19 sf222 A220.1 sf222)
    have A223 := A221.trans (CHr.wr W20 sf224 A221.1)
    have A225 := A223.trans (CHr.ext E22 A223.1)
    have sf227 := (Safe.ext E22 A223.1 (Safe.new (Nat.le_of_eq g22.symm)))
    have A226 := A225.trans (CHr.wr W28 sf227 A225.1)
    have sf229 := (Safe.wr W28 sf227 A225.1 sf227)
    have A228 := A226.trans (CHr.wr W29 sf229 A226.1)
    have sf231 := (Safe.wr W29 sf229 A226.1 sf229)
    have A230 := A228.trans (CHr.wr W30 sf231 A228.1)
    have A232 := A230.trans (CHr.ext E176 A230.1)
    have sf234 := (Safe.ext E176 A230.1 (Safe.new (Nat.le_of_eq g176.symm)))
    have A233 := A232.trans (CHr.keep K183 (sfS sf234 sf0) A232.1)
    have A235 := A233.trans (CHr.ext E195 A233.1)
    have sf237 := (Safe.ext E195 A233.1 (Safe.new (Nat.le_of_eq g195.symm)))
    have A236 := A235.trans (CHr.keep K202 (sfS sf237 sf0) A235.1)
    have hk238 := (Nat.le_trans (Nat.le_trans (Nat.le_trans (Nat.le_trans (Nat.le_trans (Nat.le_trans (Nat.le_trans (Nat.le_trans (Nat.le_trans (Nat.le_trans (Nat.le_trans (Nat.le_trans (Nat.le_trans (Nat.le_trans hk E1.1) E5.1) (Nat.le_of_eq W11.size.symm)) E13.1) (Nat.le_of_eq W19.size.symm)) (Nat.le_of_eq W20.size.symm)) E22.1) (Nat.le_of_eq W28.size.symm)) (Nat.le_of_eq W29.size.symm)) (Nat.le_of_eq W30.size.symm)) E176.1) K183.1) E195.1) K202.1)
    refine own_cvW X202 hx hZ hown (notFace_of_selects (args := #[]) (mvT (s := s.setVm _) hZ (hw _ (own_m 44 rfl)))) (hw _ (own_m 41 rfl)) (hw _ (own_m 42 rfl)) (hw _ (own_m 44 rfl)) (hw _ (own_m 43 rfl)) (hw _ (own_m 32 rfl)) (hw _ (own_m 45 rfl)) (by decide) f209 (rm := { frames := 6, cells := 9, slots := 134, locals := 132 }) (rm_msg l Z a0 hw [] b195 b176 b183_0 kb183_0 (3 : Int32) [ca_, cb_, cc_] x0 nN_ ist_ da_ db_ Da_ Db_ i_COMPACT_STRINGS T202.heap n0 Z214 f209 f202_0 f202_1 f210 f211 f212 f206 rfl (Nat.le_of_ble_eq_true rfl) (show StrChars.Road.CodA [ca_, cb_, cc_] 0 (3 : Int32) (own_lb [ca_, cb_, cc_]) from Or.inl ⟨rfl, rfl, rfl, fun c hc => (hla207 c hc).2⟩) (own_up hla207) hn63_ hng_ (own_T_keep Td_ K204 nin0 nin0 nin0) htn_ f213 hs_COMPACT_STRINGS) (by decide) (W := 0) (by decide) (by decide) (by decide) rfl hEL A236.1 hS hk238 (by rw [hml]; rfl) (argsL := []) (lenOf own_pd25 rfl) (rest := []) rfl rfl (Nat.le_of_eq rfl) (hb hby at_165) ?_
    intro _ T208 L208 X208 hQ208 Ac208 hS hZ hown
    obtain ⟨b208_0, b208_1, kb208_0, rfl, N208q, K208, ge208_0, sz208_0, f208_0, f208_1, f208_2, f208_3⟩ := hQ208
    have N208 := Fr.app N202 N208q
    have sz239 : h0.size ≤ b208_0 := Nat.le_trans K204.1 sz208_0
    show oG p e below _ (T208.setTop (mkF m 168 #[sJ x0, sS, sI x1, sI x2, sI x3, sI 3, sI ca_, sI cb_, sI cc_, sR b1, sR b5, sR b13, sR b22, sR b176, sU, sU, sU, sU, sU, sU, sU, sU, sU, sU, sU] [(.ref b208_0)]))
    refine og (fun _ hr => XS.astore X208.here hx rfl (hb hby at_168) rfl rfl (l' := #[sJ x0, sS, sI x1, sI x2, sI x3, sI 3, sI ca_, sI cb_, sI cc_, sR b1, sR b5, sR b13, sR b22, sR b176, sR b208_0, sU, sU, sU, sU, sU, sU, sU, sU, sU, sU]) rfl hr) ?_
    show oG p e below _ (T208.setTop (mkF m 170 #[sJ x0, sS, sI x1, sI x2, sI x3, sI 3, sI ca_, sI cb_, sI cc_, sR b1, sR b5, sR b13, sR b22, sR b176, sR b208_0, sU, sU, sU, sU, sU, sU, sU, sU, sU, sU] []))
    have K240 := (K204.trans K208 all0)
    have A241 := A236.trans Ac208
    exact jM_ T208 _ _ [ca_, cb_, cc_] (3 : Int32) b176 b208_0 b208_1 kb208_0 (X208.mono (by decide) (by decide)) N208 rfl K240 A241 hS hZ hown (Or.inr (Or.inr (Or.inr ⟨rfl, rfl⟩))) hla207 f208_0 f208_1 f208_2 f208_3
  rcases Classical.em ((x2 &&& (3 : Int32)) = (1 : Int32)) with c242 | c242
  · rw [c242]
    show oG p e below _ (T30.setTop (mkF m 85 #[sJ x0, sS, sI x1, sI x2, sI x3, sI 1, sI ca_, sI cb_, sI cc_, sR b1, sR b5, sR b13, sR b22, sU, sU, sU, sU, sU, sU, sU, sU, sU, sU, sU, sU] []))
    refine og (fun _ hr => XS.iload X30.here hx rfl (hb hby at_85) rfl (XS.ifYes X30.here hx rfl (pc0 := 87) (pc' := 104) rfl (hb hby at_87) rfl ((if0 _ _).trans (feq (by decide)).2) (by decide) (by decide) (XS.iload X30.here hx rfl (hb hby at_104) rfl (XS.iconst X30.here hx rfl (hb hby at_106) (XS.icmpNo X30.here hx rfl (hb hby at_107) rfl (teq (by decide)).2 hr))))) ?_
    show oG p e below _ (T30.setTop (mkF m 110 #[sJ x0, sS, sI x1, sI x2, sI x3, sI 1, sI ca_, sI cb_, sI cc_, sR b1, sR b5, sR b13, sR b22, sU, sU, sU, sU, sU, sU, sU, sU, sU, sU, sU, sU] []))
    obtain ⟨T243, h243, X243, e243, E243, A243, D243, -, st243⟩ := newO X30 hx hZ hown (hw _ (own_m 1 rfl)) (hw _ (own_m 2 rfl)) (hw _ (own_m 3 rfl)) e30 (g := (mkF m 110 #[sJ x0, sS, sI x1, sI x2, sI x3, sI 1, sI ca_, sI cb_, sI cc_, sR b1, sR b5, sR b13, sR b22, sU, sU, sU, sU, sU, sU, sU, sU, sU, sU, sU, sU] [])) rfl (hb hby at_110) (by decide) (by decide)
    obtain ⟨b243, g243⟩ : ∃ z, z = h30.size := ⟨_, rfl⟩
    rw [← g243] at A243 D243 st243
    have Z244 := (Nat.le_trans (Nat.le_trans (Nat.le_trans (Nat.le_trans Z23 E22.1) (Nat.le_of_eq W28.size.symm)) (Nat.le_of_eq W29.size.symm)) (Nat.le_of_eq W30.size.symm))
    have ge245 : n0 ≤ b243 := Nat.le_trans Z244 (Nat.le_of_eq g243.symm)
    have K246 := ((((K25.ext E22).wr W28 (Or.inr sz26)).wr W29 (Or.inr sz26)).wr W30 (Or.inr sz26))
    have sz247 : h0.size ≤ b243 := Nat.le_trans K246.1 (Nat.le_of_eq g243.symm)
    refine og st243 ?_
    have f248 : Fld Z h243 b243 "java/lang/String" "coder" "B" (.int 0) := D243 (Or.inr (hw _ (own_m 27 rfl))) (ty := .byte) (by decide)
    have f249 : Fld Z h243 b243 "java/lang/String" "value" "[B" .null := D243 (Or.inr (hw _ (own_m 29 rfl))) (ty := (.array .byte)) (by decide)
    show oG p e below _ (T243.setTop (mkF m 113 #[sJ x0, sS, sI x1, sI x2, sI x3, sI 1, sI ca_, sI cb_, sI cc_, sR b1, sR b5, sR b13, sR b22, sU, sU, sU, sU, sU, sU, sU, sU, sU, sU, sU, sU] [(.ref b243)]))
    refine og (fun _ hr => XS.dup X243.here hx rfl (hb hby at_113) rfl rfl (XS.aload X243.here hx rfl (hb hby at_114) rfl rfl hr)) ?_
    show oG p e below _ (T243.setTop (mkF m 116 #[sJ x0, sS, sI x1, sI x2, sI x3, sI 1, sI ca_, sI cb_, sI cc_, sR b1, sR b5, sR b13, sR b22, sU, sU, sU, sU, sU, sU, sU, sU, sU, sU, sU, sU] [(.ref b5), (.ref b243), (.ref b243)]))
    have c251 : ¬ (ca_ < (0 : Int32)) := by
      have q0 := rng32 x1
      have q1 := c_mask x1 (255 : Int32) 8 (by decide) (by decide)
      have q2 := c_i2c (x1 &&& (255 : Int32))
      have q3 := congrArg Int32.toInt hca_
      have q4 := (show ((nar .char ca_).toInt - ca_.toInt) % 65536 = 0 ∧ 0 ≤ (nar .char ca_).toInt ∧ (nar .char ca_).toInt < 65536 from c_i2c ca_)
      have q5 := c_iushr x1 (8 : Int32) 8 (by decide) (by decide)
      have q6 := c_mask ((x1.toUInt32 >>> ((8 : Int32) &&& 31).toUInt32).toInt32) (255 : Int32) 8 (by decide) (by decide)
      have q7 := c_i2c (((x1.toUInt32 >>> ((8 : Int32) &&& 31).toUInt32).toInt32) &&& (255 : Int32))
      have q8 := congrArg Int32.toInt hcb_
      have q9 := (show ((nar .char cb_).toInt - cb_.toInt) % 65536 = 0 ∧ 0 ≤ (nar .char cb_).toInt ∧ (nar .char cb_).toInt < 65536 from c_i2c cb_)
      have q10 := c_iushr x1 (16 : Int32) 16 (by decide) (by decide)
      have q11 := c_mask ((x1.toUInt32 >>> ((16 : Int32) &&& 31).toUInt32).toInt32) (255 : Int32) 8 (by decide) (by decide)
      have q12 := c_i2c (((x1.toUInt32 >>> ((16 : Int32) &&& 31).toUInt32).toInt32) &&& (255 : Int32))
      have q13 := congrArg Int32.toInt hcc_
      have q14 := (show ((nar .char cc_).toInt - cc_.toInt) % 65536 = 0 ∧ 0 ≤ (nar .char cc_).toInt ∧ (nar .char cc_).toInt < 65536 from c_i2c cc_)
      have p0 := c12
      have p1 := c21
      have p2 := c31
      simp only [true_implies, Int32.lt_iff_toInt_lt, ← Int32.toInt_inj, Int32.reduceToInt, Int64.lt_iff_toInt_lt, ← Int64.toInt_inj, Int64.reduceToInt] at q0 q1 q2 q3 q4 q5 q6 q7 q8 q9 q10 q11 q12 q13 q14 p0 p1 p2 ⊢
      omega
    have c252 : ¬ ((255 : Int32) < ca_) := by
      have q0 := rng32 x1
      have q1 := c_mask x1 (255 : Int32) 8 (by decide) (by decide)
      have q2 := c_i2c (x1 &&& (255 : Int32))
      have q3 := congrArg Int32.toInt hca_
      have q4 := (show ((nar .char ca_).toInt - ca_.toInt) % 65536 = 0 ∧ 0 ≤ (nar .char ca_).toInt ∧ (nar .char ca_).toInt < 65536 from c_i2c ca_)
      have q5 := c_iushr x1 (8 : Int32) 8 (by decide) (by decide)
      have q6 := c_mask ((x1.toUInt32 >>> ((8 : Int32) &&& 31).toUInt32).toInt32) (255 : Int32) 8 (by decide) (by decide)
      have q7 := c_i2c (((x1.toUInt32 >>> ((8 : Int32) &&& 31).toUInt32).toInt32) &&& (255 : Int32))
      have q8 := congrArg Int32.toInt hcb_
      have q9 := (show ((nar .char cb_).toInt - cb_.toInt) % 65536 = 0 ∧ 0 ≤ (nar .char cb_).toInt ∧ (nar .char cb_).toInt < 65536 from c_i2c cb_)
      have q10 := c_iushr x1 (16 : Int32) 16 (by decide) (by decide)
      have q11 := c_mask ((x1.toUInt32 >>> ((16 : Int32) &&& 31).toUInt32).toInt32) (255 : Int32) 8 (by decide) (by decide)
      have q12 := c_i2c (((x1.toUInt32 >>> ((16 : Int32) &&& 31).toUInt32).toInt32) &&& (255 : Int32))
      have q13 := congrArg Int32.toInt hcc_
      have q14 := (show ((nar .char cc_).toInt - cc_.toInt) % 65536 = 0 ∧ 0 ≤ (nar .char cc_).toInt ∧ (nar .char cc_).toInt < 65536 from c_i2c cc_)
      have p0 := c12
      have p1 := c21
      have p2 := c31
      have p3 := c251
      simp only [true_implies, Int32.lt_iff_toInt_lt, ← Int32.toInt_inj, Int32.reduceToInt, Int64.lt_iff_toInt_lt, ← Int64.toInt_inj, Int64.reduceToInt] at q0 q1 q2 q3 q4 q5 q6 q7 q8 q9 q10 q11 q12 q13 q14 p0 p1 p2 p3 ⊢
      omega
    have hp250 : ∀ c ∈ ([ca_] : List Int32), ¬ c < 0 ∧ ¬ (255 : Int32) < c := (own_lc ⟨c251, c252⟩ own_ln)
    have f253 := ((((((((f11.ext E13).other W19 (Nat.ne_of_lt (Nat.lt_of_lt_of_le (EA5.wr W11).lt (Nat.le_of_eq g13.symm)))).other W20 (Nat.ne_of_lt (Nat.lt_of_lt_of_le (EA5.wr W11).lt (Nat.le_of_eq g13.symm)))).ext E22).other W28 (Nat.ne_of_lt (Nat.lt_of_lt_of_le ((((EA5.wr W11).ext E13).wr W19).wr W20).lt (Nat.le_of_eq g22.symm)))).other W29 (Nat.ne_of_lt (Nat.lt_of_lt_of_le ((((EA5.wr W11).ext E13).wr W19).wr W20).lt (Nat.le_of_eq g22.symm)))).other W30 (Nat.ne_of_lt (Nat.lt_of_lt_of_le ((((EA5.wr W11).ext E13).wr W19).wr W20).lt (Nat.le_of_eq g22.symm)))).ext E243)
    have K254 := (K246.ext E243)
    have f255 := (own_sta_keep S_COMPACT_STRINGS K254 all0)
    have Z256 := (Nat.le_trans Z244 E243.1)
    refine own_newS X243 hx hZ hown hw (hw _ (own_m 4 rfl)) (hw _ (own_m 5 rfl)) (hw _ (own_m 6 rfl)) (hw _ (own_m 2 rfl)) [ca_] ge245 Z256 A243 f249 f248 f253 f255 hs_COMPACT_STRINGS (n := 1) rfl rfl (by decide) (by decide) hp250 (by decide) (W := 1) (by decide) (by decide) (by decide) e243 (by rw [hml]; rfl) (Nat.le_of_eq rfl) (hb hby at_116) ?_
    intro T250 L250 b250_0 kb250_0 X250 N250q K250 f250_0 f250_1 ge250_0 sz250_0 ne250_0 f250_2 f250_3
    have N250 := Fr.app N30 N250q
    have sz257 : h0.size ≤ b250_0 := Nat.le_trans K254.1 sz250_0
    show oG p e below _ (T250.setTop (mkF m 119 #[sJ x0, sS, sI x1, sI x2, sI x3, sI 1, sI ca_, sI cb_, sI cc_, sR b1, sR b5, sR b13, sR b22, sU, sU, sU, sU, sU, sU, sU, sU, sU, sU, sU, sU] [(.ref b243)]))
    refine og (fun _ hr => XS.astore X250.here hx rfl (hb hby at_119) rfl rfl (l' := #[sJ x0, sS, sI x1, sI x2, sI x3, sI 1, sI ca_, sI cb_, sI cc_, sR b1, sR b5, sR b13, sR b22, sR b243, sU, sU, sU, sU, sU, sU, sU, sU, sU, sU, sU]) rfl (XS.goto X250.here hx rfl (pc0 := 121) (pc' := 155) rfl (hb hby at_121) (by decide) (by decide) hr)) ?_
    show oG p e below _ (T250.setTop (mkF m 155 #[sJ x0, sS, sI x1, sI x2, sI x3, sI 1, sI ca_, sI cb_, sI cc_, sR b1, sR b5, sR b13, sR b22, sR b243, sU, sU, sU, sU, sU, sU, sU, sU, sU, sU, sU] []))
    obtain ⟨T258, h258, X258, e258, E258, A258, D258, -, st258⟩ := newO X250 hx hZ hown (hw _ (own_m 30 rfl)) (hw _ (own_m 31 rfl)) (hw _ (own_m 32 rfl)) rfl (g := (mkF m 155 #[sJ x0, sS, sI x1, sI x2, sI x3, sI 1, sI ca_, sI cb_, sI cc_, sR b1, sR b5, sR b13, sR b22, sR b243, sU, sU, sU, sU, sU, sU, sU, sU, sU, sU, sU] [])) rfl (hb hby at_155) (by decide) (by decide)
    obtain ⟨b258, g258⟩ : ∃ z, z = T250.heap.size := ⟨_, rfl⟩
    rw [← g258] at A258 D258 st258
    have Z259 := (Nat.le_trans Z256 K250.1)
    have ge260 : n0 ≤ b258 := Nat.le_trans Z259 (Nat.le_of_eq g258.symm)
    have K261 := (K254.trans K250 (allS (Or.inr sz247) all0))
    have sz262 : h0.size ≤ b258 := Nat.le_trans K261.1 (Nat.le_of_eq g258.symm)
    refine og st258 ?_
    have f263 : Fld Z h258 b258 "com/example/strict_tariff/stricttariff/pricing/RefusedReading" "line" "J" (.long (0 : Int64)) := D258 (Or.inr (hw _ (own_m 38 rfl))) (ty := .long) (by decide)
    have f264 : Fld Z h258 b258 "com/example/strict_tariff/stricttariff/pricing/RefusedReading" "reason" "Ljava/lang/String;" .null := D258 (Or.inr (hw _ (own_m 40 rfl))) (ty := (.object "java/lang/String")) (by decide)
    show oG p e below _ (T258.setTop (mkF m 158 #[sJ x0, sS, sI x1, sI x2, sI x3, sI 1, sI ca_, sI cb_, sI cc_, sR b1, sR b5, sR b13, sR b22, sR b243, sU, sU, sU, sU, sU, sU, sU, sU, sU, sU, sU] [(.ref b258)]))
    refine og (fun _ hr => XS.dup X258.here hx rfl (hb hby at_158) rfl rfl (XS.lloadN X258.here hx rfl (hb hby at_159) rfl (XS.aload X258.here hx rfl (hb hby at_160) rfl rfl hr))) ?_
    show oG p e below _ (T258.setTop (mkF m 162 #[sJ x0, sS, sI x1, sI x2, sI x3, sI 1, sI ca_, sI cb_, sI cc_, sR b1, sR b5, sR b13, sR b22, sR b243, sU, sU, sU, sU, sU, sU, sU, sU, sU, sU, sU] [(.ref b243), (.long x0), (.ref b258), (.ref b258)]))
    have Z266 := (Nat.le_trans Z259 E258.1)
    refine own_cp X258 hx hZ hown rfl (hw _ (own_m 33 rfl)) (hw _ (own_m 34 rfl)) (hw _ (own_m 32 rfl)) (hw _ (own_m 35 rfl)) (by decide) (rm := { frames := 1, cells := 0, slots := 0, locals := 12 }) (rm_init_13 l Z a0 hw [] b258 x0 b243 h258 n0 Z266 A258 f263 f264 ge260) (by decide) (W := 1) (by decide) (by decide) (by decide) e258 (by rw [hml]; rfl) (argsL := [(.long x0), (.ref b243)]) (lenOf own_pd27 rfl) (rest := [(.ref b258)]) rfl rfl (Nat.le_of_eq rfl) (hb hby at_162) ?_
    intro _ T265 L265 X265 hQ265
    obtain ⟨rfl, N265q, K265, f265_0, f265_1⟩ := hQ265
    have N265 := Fr.app N250 N265q
    show oG p e below _ (T265.setTop (mkF m 165 #[sJ x0, sS, sI x1, sI x2, sI x3, sI 1, sI ca_, sI cb_, sI cc_, sR b1, sR b5, sR b13, sR b22, sR b243, sU, sU, sU, sU, sU, sU, sU, sU, sU, sU, sU] [(.ref b258)]))
    have K267 := ((K261.ext E258).trans K265 (allS (Or.inr sz262) all0))
    have f268 := ((f250_3.ext E258).keep K265 (ninS (Nat.ne_of_lt (Nat.lt_of_lt_of_le f250_3.lt (Nat.le_of_eq g258.symm))) nin0))
    have f269 : Arv Z T265.heap b250_0 kb250_0 .byte (1 : Int32) (own_lb [ca_]) (.int 0) := f268
    have hla270 : ∀ c ∈ [ca_], ¬ c < 0 ∧ ¬ (255 : Int32) < c := (own_lc ⟨c251, c252⟩ own_ln)
    have f272 := (A258.keep K265)
    have f273 := ((f250_0.ext E258).keep K265)
    have f274 := ((f250_1.ext E258).keep K265 (ninS (Nat.ne_of_lt (Nat.lt_of_lt_of_le f250_0.lt (Nat.le_of_eq g258.symm))) nin0))
    have f275 := ((f250_2.ext E258).keep K265 (ninS (Nat.ne_of_lt (Nat.lt_of_lt_of_le f250_0.lt (Nat.le_of_eq g258.symm))) nin0))
    have f276 := (own_sta_keep ((own_sta_keep f255 K250 (allS (own_ns_exa A243) all0)).ext E258) K265 (allS (own_ns_exa A258) all0))
    have Z277 := (Nat.le_trans Z266 K265.1)
    have hZo278 := hZ
    have A279 := A0.trans (CHr.ext E1 A0.1)
    have A280 := A279.trans (CHr.ext E5 A279.1)
    have sf282 := (Safe.ext E5 A279.1 (Safe.new (Nat.le_of_eq g5.symm)))
    have A281 := A280.trans (CHr.wr W11 sf282 A280.1)
    have A283 := A281.trans (CHr.ext E13 A281.1)
    have sf285 := (Safe.ext E13 A281.1 (Safe.new (Nat.le_of_eq g13.symm)))
    have A284 := A283.trans (CHr.wr W19 sf285 A283.1)
    have sf287 := (Safe.wr W19 sf285 A283.1 sf285)
    have A286 := A284.trans (CHr.wr W20 sf287 A284.1)
    have A288 := A286.trans (CHr.ext E22 A286.1)
    have sf290 := (Safe.ext E22 A286.1 (Safe.new (Nat.le_of_eq g22.symm)))
    have A289 := A288.trans (CHr.wr W28 sf290 A288.1)
    have sf292 := (Safe.wr W28 sf290 A288.1 sf290)
    have A291 := A289.trans (CHr.wr W29 sf292 A289.1)
    have sf294 := (Safe.wr W29 sf292 A289.1 sf292)
    have A293 := A291.trans (CHr.wr W30 sf294 A291.1)
    have A295 := A293.trans (CHr.ext E243 A293.1)
    have sf297 := (Safe.ext E243 A293.1 (Safe.new (Nat.le_of_eq g243.symm)))
    have A296 := A295.trans (CHr.keep K250 (sfS sf297 sf0) A295.1)
    have A298 := A296.trans (CHr.ext E258 A296.1)
    have sf300 := (Safe.ext E258 A296.1 (Safe.new (Nat.le_of_eq g258.symm)))
    have A299 := A298.trans (CHr.keep K265 (sfS sf300 sf0) A298.1)
    have hk301 := (Nat.le_trans (Nat.le_trans (Nat.le_trans (Nat.le_trans (Nat.le_trans (Nat.le_trans (Nat.le_trans (Nat.le_trans (Nat.le_trans (Nat.le_trans (Nat.le_trans (Nat.le_trans (Nat.le_trans (Nat.le_trans hk E1.1) E5.1) (Nat.le_of_eq W11.size.symm)) E13.1) (Nat.le_of_eq W19.size.symm)) (Nat.le_of_eq W20.size.symm)) E22.1) (Nat.le_of_eq W28.size.symm)) (Nat.le_of_eq W29.size.symm)) (Nat.le_of_eq W30.size.symm)) E243.1) K250.1) E258.1) K265.1)
    refine own_cvW X265 hx hZ hown (notFace_of_selects (args := #[]) (mvT (s := s.setVm _) hZ (hw _ (own_m 44 rfl)))) (hw _ (own_m 41 rfl)) (hw _ (own_m 42 rfl)) (hw _ (own_m 44 rfl)) (hw _ (own_m 43 rfl)) (hw _ (own_m 32 rfl)) (hw _ (own_m 45 rfl)) (by decide) f272 (rm := { frames := 6, cells := 9, slots := 134, locals := 132 }) (rm_msg l Z a0 hw [] b258 b243 b250_0 kb250_0 (1 : Int32) [ca_] x0 nN_ ist_ da_ db_ Da_ Db_ i_COMPACT_STRINGS T265.heap n0 Z277 f272 f265_0 f265_1 f273 f274 f275 f269 rfl (Nat.le_of_ble_eq_true rfl) (show StrChars.Road.CodA [ca_] 0 (1 : Int32) (own_lb [ca_]) from Or.inl ⟨rfl, rfl, rfl, fun c hc => (hla270 c hc).2⟩) (own_up hla270) hn63_ hng_ (own_T_keep Td_ K267 nin0 nin0 nin0) htn_ f276 hs_COMPACT_STRINGS) (by decide) (W := 0) (by decide) (by decide) (by decide) rfl hEL A299.1 hS hk301 (by rw [hml]; rfl) (argsL := []) (lenOf own_pd25 rfl) (rest := []) rfl rfl (Nat.le_of_eq rfl) (hb hby at_165) ?_
    intro _ T271 L271 X271 hQ271 Ac271 hS hZ hown
    obtain ⟨b271_0, b271_1, kb271_0, rfl, N271q, K271, ge271_0, sz271_0, f271_0, f271_1, f271_2, f271_3⟩ := hQ271
    have N271 := Fr.app N265 N271q
    have sz302 : h0.size ≤ b271_0 := Nat.le_trans K267.1 sz271_0
    show oG p e below _ (T271.setTop (mkF m 168 #[sJ x0, sS, sI x1, sI x2, sI x3, sI 1, sI ca_, sI cb_, sI cc_, sR b1, sR b5, sR b13, sR b22, sR b243, sU, sU, sU, sU, sU, sU, sU, sU, sU, sU, sU] [(.ref b271_0)]))
    refine og (fun _ hr => XS.astore X271.here hx rfl (hb hby at_168) rfl rfl (l' := #[sJ x0, sS, sI x1, sI x2, sI x3, sI 1, sI ca_, sI cb_, sI cc_, sR b1, sR b5, sR b13, sR b22, sR b243, sR b271_0, sU, sU, sU, sU, sU, sU, sU, sU, sU, sU]) rfl hr) ?_
    show oG p e below _ (T271.setTop (mkF m 170 #[sJ x0, sS, sI x1, sI x2, sI x3, sI 1, sI ca_, sI cb_, sI cc_, sR b1, sR b5, sR b13, sR b22, sR b243, sR b271_0, sU, sU, sU, sU, sU, sU, sU, sU, sU, sU] []))
    have K303 := (K267.trans K271 all0)
    have A304 := A299.trans Ac271
    exact jM_ T271 _ _ [ca_] (1 : Int32) b243 b271_0 b271_1 kb271_0 (X271.mono (by decide) (by decide)) N271 rfl K303 A304 hS hZ hown (Or.inr (Or.inl ⟨rfl, rfl⟩)) hla270 f271_0 f271_1 f271_2 f271_3
  rcases Classical.em ((x2 &&& (3 : Int32)) = (0 : Int32)) with c305 | c305
  · rw [c305]
    show oG p e below _ (T30.setTop (mkF m 85 #[sJ x0, sS, sI x1, sI x2, sI x3, sI 0, sI ca_, sI cb_, sI cc_, sR b1, sR b5, sR b13, sR b22, sU, sU, sU, sU, sU, sU, sU, sU, sU, sU, sU, sU] []))
    refine og (fun _ hr => XS.iload X30.here hx rfl (hb hby at_85) rfl (XS.ifNo X30.here hx rfl (hb hby at_87) rfl ((if0 _ _).trans (teq (by decide)).2) hr)) ?_
    show oG p e below _ (T30.setTop (mkF m 90 #[sJ x0, sS, sI x1, sI x2, sI x3, sI 0, sI ca_, sI cb_, sI cc_, sR b1, sR b5, sR b13, sR b22, sU, sU, sU, sU, sU, sU, sU, sU, sU, sU, sU, sU] []))
    obtain ⟨T306, h306, X306, e306, E306, A306, D306, -, st306⟩ := newO X30 hx hZ hown (hw _ (own_m 1 rfl)) (hw _ (own_m 2 rfl)) (hw _ (own_m 3 rfl)) e30 (g := (mkF m 90 #[sJ x0, sS, sI x1, sI x2, sI x3, sI 0, sI ca_, sI cb_, sI cc_, sR b1, sR b5, sR b13, sR b22, sU, sU, sU, sU, sU, sU, sU, sU, sU, sU, sU, sU] [])) rfl (hb hby at_90) (by decide) (by decide)
    obtain ⟨b306, g306⟩ : ∃ z, z = h30.size := ⟨_, rfl⟩
    rw [← g306] at A306 D306 st306
    have Z307 := (Nat.le_trans (Nat.le_trans (Nat.le_trans (Nat.le_trans Z23 E22.1) (Nat.le_of_eq W28.size.symm)) (Nat.le_of_eq W29.size.symm)) (Nat.le_of_eq W30.size.symm))
    have ge308 : n0 ≤ b306 := Nat.le_trans Z307 (Nat.le_of_eq g306.symm)
    have K309 := ((((K25.ext E22).wr W28 (Or.inr sz26)).wr W29 (Or.inr sz26)).wr W30 (Or.inr sz26))
    have sz310 : h0.size ≤ b306 := Nat.le_trans K309.1 (Nat.le_of_eq g306.symm)
    refine og st306 ?_
    have f311 : Fld Z h306 b306 "java/lang/String" "coder" "B" (.int 0) := D306 (Or.inr (hw _ (own_m 27 rfl))) (ty := .byte) (by decide)
    have f312 : Fld Z h306 b306 "java/lang/String" "value" "[B" .null := D306 (Or.inr (hw _ (own_m 29 rfl))) (ty := (.array .byte)) (by decide)
    show oG p e below _ (T306.setTop (mkF m 93 #[sJ x0, sS, sI x1, sI x2, sI x3, sI 0, sI ca_, sI cb_, sI cc_, sR b1, sR b5, sR b13, sR b22, sU, sU, sU, sU, sU, sU, sU, sU, sU, sU, sU, sU] [(.ref b306)]))
    refine og (fun _ hr => XS.dup X306.here hx rfl (hb hby at_93) rfl rfl (XS.aload X306.here hx rfl (hb hby at_94) rfl rfl hr)) ?_
    show oG p e below _ (T306.setTop (mkF m 96 #[sJ x0, sS, sI x1, sI x2, sI x3, sI 0, sI ca_, sI cb_, sI cc_, sR b1, sR b5, sR b13, sR b22, sU, sU, sU, sU, sU, sU, sU, sU, sU, sU, sU, sU] [(.ref b1), (.ref b306), (.ref b306)]))
    have f314 := ((((((((((f4.ext E5).other W11 (Nat.ne_of_lt (Nat.lt_of_lt_of_le EA1.lt (Nat.le_of_eq g5.symm)))).ext E13).other W19 (Nat.ne_of_lt (Nat.lt_of_lt_of_le ((EA1.ext E5).wr W11).lt (Nat.le_of_eq g13.symm)))).other W20 (Nat.ne_of_lt (Nat.lt_of_lt_of_le ((EA1.ext E5).wr W11).lt (Nat.le_of_eq g13.symm)))).ext E22).other W28 (Nat.ne_of_lt (Nat.lt_of_lt_of_le (((((EA1.ext E5).wr W11).ext E13).wr W19).wr W20).lt (Nat.le_of_eq g22.symm)))).other W29 (Nat.ne_of_lt (Nat.lt_of_lt_of_le (((((EA1.ext E5).wr W11).ext E13).wr W19).wr W20).lt (Nat.le_of_eq g22.symm)))).other W30 (Nat.ne_of_lt (Nat.lt_of_lt_of_le (((((EA1.ext E5).wr W11).ext E13).wr W19).wr W20).lt (Nat.le_of_eq g22.symm)))).ext E306)
    have Z315 := (Nat.le_trans Z307 E306.1)
    have hZo316 := hZ
    have A317 := A0.trans (CHr.ext E1 A0.1)
    have A318 := A317.trans (CHr.ext E5 A317.1)
    have sf320 := (Safe.ext E5 A317.1 (Safe.new (Nat.le_of_eq g5.symm)))
    have A319 := A318.trans (CHr.wr W11 sf320 A318.1)
    have A321 := A319.trans (CHr.ext E13 A319.1)
    have sf323 := (Safe.ext E13 A319.1 (Safe.new (Nat.le_of_eq g13.symm)))
    have A322 := A321.trans (CHr.wr W19 sf323 A321.1)
    have sf325 := (Safe.wr W19 sf323 A321.1 sf323)
    have A324 := A322.trans (CHr.wr W20 sf325 A322.1)
    have A326 := A324.trans (CHr.ext E22 A324.1)
    have sf328 := (Safe.ext E22 A324.1 (Safe.new (Nat.le_of_eq g22.symm)))
    have A327 := A326.trans (CHr.wr W28 sf328 A326.1)
    have sf330 := (Safe.wr W28 sf328 A326.1 sf328)
    have A329 := A327.trans (CHr.wr W29 sf330 A327.1)
    have sf332 := (Safe.wr W29 sf330 A327.1 sf330)
    have A331 := A329.trans (CHr.wr W30 sf332 A329.1)
    have A333 := A331.trans (CHr.ext E306 A331.1)
    have hk334 := (Nat.le_trans (Nat.le_trans (Nat.le_trans (Nat.le_trans (Nat.le_trans (Nat.le_trans (Nat.le_trans (Nat.le_trans (Nat.le_trans (Nat.le_trans (Nat.le_trans hk E1.1) E5.1) (Nat.le_of_eq W11.size.symm)) E13.1) (Nat.le_of_eq W19.size.symm)) (Nat.le_of_eq W20.size.symm)) E22.1) (Nat.le_of_eq W28.size.symm)) (Nat.le_of_eq W29.size.symm)) (Nat.le_of_eq W30.size.symm)) E306.1)
    refine own_cpW X306 hx hZ hown rfl (hw _ (own_m 4 rfl)) (hw _ (own_m 5 rfl)) (hw _ (own_m 3 rfl)) (hw _ (own_m 6 rfl)) (by decide) (rm := { frames := 2, cells := 4, slots := 8, locals := 29 }) (rm_init_15 l Z a0 hw [] b306 b1 k1 h306 n0 Z315 f314 A306 f312 f311 ge308) (by decide) (W := 1) (by decide) (by decide) (by decide) e306 hEL A333.1 hS hk334 (by rw [hml]; rfl) (argsL := [(.ref b1)]) (lenOf own_pd0 rfl) (rest := [(.ref b306)]) rfl rfl (Nat.le_of_eq rfl) (hb hby at_96) ?_
    intro _ T313 L313 X313 hQ313 Ac313 hS hZ hown
    obtain ⟨b313_0, kb313_0, rfl, N313q, K313, f313_0, f313_1, f313_2⟩ := hQ313
    have N313 := Fr.app N30 N313q
    show oG p e below _ (T313.setTop (mkF m 99 #[sJ x0, sS, sI x1, sI x2, sI x3, sI 0, sI ca_, sI cb_, sI cc_, sR b1, sR b5, sR b13, sR b22, sU, sU, sU, sU, sU, sU, sU, sU, sU, sU, sU, sU] [(.ref b306)]))
    refine og (fun _ hr => XS.astore X313.here hx rfl (hb hby at_99) rfl rfl (l' := #[sJ x0, sS, sI x1, sI x2, sI x3, sI 0, sI ca_, sI cb_, sI cc_, sR b1, sR b5, sR b13, sR b22, sR b306, sU, sU, sU, sU, sU, sU, sU, sU, sU, sU, sU]) rfl (XS.goto X313.here hx rfl (pc0 := 101) (pc' := 155) rfl (hb hby at_101) (by decide) (by decide) hr)) ?_
    show oG p e below _ (T313.setTop (mkF m 155 #[sJ x0, sS, sI x1, sI x2, sI x3, sI 0, sI ca_, sI cb_, sI cc_, sR b1, sR b5, sR b13, sR b22, sR b306, sU, sU, sU, sU, sU, sU, sU, sU, sU, sU, sU] []))
    obtain ⟨T335, h335, X335, e335, E335, A335, D335, -, st335⟩ := newO X313 hx hZ hown (hw _ (own_m 30 rfl)) (hw _ (own_m 31 rfl)) (hw _ (own_m 32 rfl)) rfl (g := (mkF m 155 #[sJ x0, sS, sI x1, sI x2, sI x3, sI 0, sI ca_, sI cb_, sI cc_, sR b1, sR b5, sR b13, sR b22, sR b306, sU, sU, sU, sU, sU, sU, sU, sU, sU, sU, sU] [])) rfl (hb hby at_155) (by decide) (by decide)
    obtain ⟨b335, g335⟩ : ∃ z, z = T313.heap.size := ⟨_, rfl⟩
    rw [← g335] at A335 D335 st335
    have Z336 := (Nat.le_trans Z315 K313.1)
    have ge337 : n0 ≤ b335 := Nat.le_trans Z336 (Nat.le_of_eq g335.symm)
    have K338 := ((K309.ext E306).trans K313 (allS (Or.inr sz310) all0))
    have sz339 : h0.size ≤ b335 := Nat.le_trans K338.1 (Nat.le_of_eq g335.symm)
    refine og st335 ?_
    have f340 : Fld Z h335 b335 "com/example/strict_tariff/stricttariff/pricing/RefusedReading" "line" "J" (.long (0 : Int64)) := D335 (Or.inr (hw _ (own_m 38 rfl))) (ty := .long) (by decide)
    have f341 : Fld Z h335 b335 "com/example/strict_tariff/stricttariff/pricing/RefusedReading" "reason" "Ljava/lang/String;" .null := D335 (Or.inr (hw _ (own_m 40 rfl))) (ty := (.object "java/lang/String")) (by decide)
    show oG p e below _ (T335.setTop (mkF m 158 #[sJ x0, sS, sI x1, sI x2, sI x3, sI 0, sI ca_, sI cb_, sI cc_, sR b1, sR b5, sR b13, sR b22, sR b306, sU, sU, sU, sU, sU, sU, sU, sU, sU, sU, sU] [(.ref b335)]))
    refine og (fun _ hr => XS.dup X335.here hx rfl (hb hby at_158) rfl rfl (XS.lloadN X335.here hx rfl (hb hby at_159) rfl (XS.aload X335.here hx rfl (hb hby at_160) rfl rfl hr))) ?_
    show oG p e below _ (T335.setTop (mkF m 162 #[sJ x0, sS, sI x1, sI x2, sI x3, sI 0, sI ca_, sI cb_, sI cc_, sR b1, sR b5, sR b13, sR b22, sR b306, sU, sU, sU, sU, sU, sU, sU, sU, sU, sU, sU] [(.ref b306), (.long x0), (.ref b335), (.ref b335)]))
    have Z343 := (Nat.le_trans Z336 E335.1)
    refine own_cp X335 hx hZ hown rfl (hw _ (own_m 33 rfl)) (hw _ (own_m 34 rfl)) (hw _ (own_m 32 rfl)) (hw _ (own_m 35 rfl)) (by decide) (rm := { frames := 1, cells := 0, slots := 0, locals := 12 }) (rm_init_13 l Z a0 hw [] b335 x0 b306 h335 n0 Z343 A335 f340 f341 ge337) (by decide) (W := 1) (by decide) (by decide) (by decide) e335 (by rw [hml]; rfl) (argsL := [(.long x0), (.ref b306)]) (lenOf own_pd27 rfl) (rest := [(.ref b335)]) rfl rfl (Nat.le_of_eq rfl) (hb hby at_162) ?_
    intro _ T342 L342 X342 hQ342
    obtain ⟨rfl, N342q, K342, f342_0, f342_1⟩ := hQ342
    have N342 := Fr.app N313 N342q
    show oG p e below _ (T342.setTop (mkF m 165 #[sJ x0, sS, sI x1, sI x2, sI x3, sI 0, sI ca_, sI cb_, sI cc_, sR b1, sR b5, sR b13, sR b22, sR b306, sU, sU, sU, sU, sU, sU, sU, sU, sU, sU, sU] [(.ref b335)]))
    have K344 := ((K338.ext E335).trans K342 (allS (Or.inr sz339) all0))
    have f345 := ((f313_2.ext E335).keep K342 (ninS (Nat.ne_of_lt (Nat.lt_of_lt_of_le f313_2.lt (Nat.le_of_eq g335.symm))) nin0))
    have f346 : Arv Z T342.heap b313_0 kb313_0 .byte (0 : Int32) (own_lb ([] : List Int32)) (.int 0) := f345
    have hla347 : ∀ c ∈ ([] : List Int32), ¬ c < 0 ∧ ¬ (255 : Int32) < c := own_ln
    have f349 := (A335.keep K342)
    have f350 := (((A306.keep K313).ext E335).keep K342)
    have f351 := ((f313_0.ext E335).keep K342 (ninS (Nat.ne_of_lt (Nat.lt_of_lt_of_le (A306.keep K313).lt (Nat.le_of_eq g335.symm))) nin0))
    have f352 := ((f313_1.ext E335).keep K342 (ninS (Nat.ne_of_lt (Nat.lt_of_lt_of_le (A306.keep K313).lt (Nat.le_of_eq g335.symm))) nin0))
    have f353 := (own_sta_keep S_COMPACT_STRINGS K344 all0)
    have Z354 := (Nat.le_trans Z343 K342.1)
    have hZo355 := hZ
    have A356 := A333.trans Ac313
    have A357 := A356.trans (CHr.ext E335 A356.1)
    have sf359 := (Safe.ext E335 A356.1 (Safe.new (Nat.le_of_eq g335.symm)))
    have A358 := A357.trans (CHr.keep K342 (sfS sf359 sf0) A357.1)
    have hk360 := (Nat.le_trans (Nat.le_trans (Nat.le_refl _) E335.1) K342.1)
    refine own_cvW X342 hx hZ hown (notFace_of_selects (args := #[]) (mvT (s := s.setVm _) hZ (hw _ (own_m 44 rfl)))) (hw _ (own_m 41 rfl)) (hw _ (own_m 42 rfl)) (hw _ (own_m 44 rfl)) (hw _ (own_m 43 rfl)) (hw _ (own_m 32 rfl)) (hw _ (own_m 45 rfl)) (by decide) f349 (rm := { frames := 6, cells := 9, slots := 134, locals := 132 }) (rm_msg l Z a0 hw [] b335 b306 b313_0 kb313_0 (0 : Int32) ([] : List Int32) x0 nN_ ist_ da_ db_ Da_ Db_ i_COMPACT_STRINGS T342.heap n0 Z354 f349 f342_0 f342_1 f350 f351 f352 f346 rfl (Nat.le_of_ble_eq_true rfl) (show StrChars.Road.CodA ([] : List Int32) 0 (0 : Int32) (own_lb ([] : List Int32)) from Or.inl ⟨rfl, rfl, rfl, fun c hc => (hla347 c hc).2⟩) (own_up hla347) hn63_ hng_ (own_T_keep Td_ K344 nin0 nin0 nin0) htn_ f353 hs_COMPACT_STRINGS) (by decide) (W := 0) (by decide) (by decide) (by decide) rfl hEL A358.1 hS hk360 (by rw [hml]; rfl) (argsL := []) (lenOf own_pd25 rfl) (rest := []) rfl rfl (Nat.le_of_eq rfl) (hb hby at_165) ?_
    intro _ T348 L348 X348 hQ348 Ac348 hS hZ hown
    obtain ⟨b348_0, b348_1, kb348_0, rfl, N348q, K348, ge348_0, sz348_0, f348_0, f348_1, f348_2, f348_3⟩ := hQ348
    have N348 := Fr.app N342 N348q
    have sz361 : h0.size ≤ b348_0 := Nat.le_trans K344.1 sz348_0
    show oG p e below _ (T348.setTop (mkF m 168 #[sJ x0, sS, sI x1, sI x2, sI x3, sI 0, sI ca_, sI cb_, sI cc_, sR b1, sR b5, sR b13, sR b22, sR b306, sU, sU, sU, sU, sU, sU, sU, sU, sU, sU, sU] [(.ref b348_0)]))
    refine og (fun _ hr => XS.astore X348.here hx rfl (hb hby at_168) rfl rfl (l' := #[sJ x0, sS, sI x1, sI x2, sI x3, sI 0, sI ca_, sI cb_, sI cc_, sR b1, sR b5, sR b13, sR b22, sR b306, sR b348_0, sU, sU, sU, sU, sU, sU, sU, sU, sU, sU]) rfl hr) ?_
    show oG p e below _ (T348.setTop (mkF m 170 #[sJ x0, sS, sI x1, sI x2, sI x3, sI 0, sI ca_, sI cb_, sI cc_, sR b1, sR b5, sR b13, sR b22, sR b306, sR b348_0, sU, sU, sU, sU, sU, sU, sU, sU, sU, sU] []))
    have K362 := (K344.trans K348 all0)
    have A363 := A358.trans Ac348
    exact jM_ T348 _ _ ([] : List Int32) (0 : Int32) b306 b348_0 b348_1 kb348_0 (X348.mono (by decide) (by decide)) N348 rfl K362 A363 hS hZ hown (Or.inl ⟨rfl, rfl⟩) hla347 f348_0 f348_1 f348_2 f348_3
  have c364 : (x2 &&& (3 : Int32)) = (2 : Int32) := by
    have q0 := rng32 x2
    have q1 := c_mask x2 (3 : Int32) 2 (by decide) (by decide)
    have p0 := c175
    have p1 := c242
    have p2 := c305
    simp only [true_implies, Int32.lt_iff_toInt_lt, ← Int32.toInt_inj, Int32.reduceToInt, Int64.lt_iff_toInt_lt, ← Int64.toInt_inj, Int64.reduceToInt] at q0 q1 p0 p1 p2 ⊢
    omega
  rw [c364]
  show oG p e below _ (T30.setTop (mkF m 85 #[sJ x0, sS, sI x1, sI x2, sI x3, sI 2, sI ca_, sI cb_, sI cc_, sR b1, sR b5, sR b13, sR b22, sU, sU, sU, sU, sU, sU, sU, sU, sU, sU, sU, sU] []))
  refine og (fun _ hr => XS.iload X30.here hx rfl (hb hby at_85) rfl (XS.ifYes X30.here hx rfl (pc0 := 87) (pc' := 104) rfl (hb hby at_87) rfl ((if0 _ _).trans (feq (by decide)).2) (by decide) (by decide) (XS.iload X30.here hx rfl (hb hby at_104) rfl (XS.iconst X30.here hx rfl (hb hby at_106) (XS.icmpYes X30.here hx rfl (pc0 := 107) (pc' := 124) rfl (hb hby at_107) rfl (feq (by decide)).2 (by decide) (by decide) (XS.iload X30.here hx rfl (hb hby at_124) rfl (XS.iconst X30.here hx rfl (hb hby at_126) (XS.icmpNo X30.here hx rfl (hb hby at_127) rfl (teq (by decide)).2 hr)))))))) ?_
  show oG p e below _ (T30.setTop (mkF m 130 #[sJ x0, sS, sI x1, sI x2, sI x3, sI 2, sI ca_, sI cb_, sI cc_, sR b1, sR b5, sR b13, sR b22, sU, sU, sU, sU, sU, sU, sU, sU, sU, sU, sU, sU] []))
  obtain ⟨T365, h365, X365, e365, E365, A365, D365, -, st365⟩ := newO X30 hx hZ hown (hw _ (own_m 1 rfl)) (hw _ (own_m 2 rfl)) (hw _ (own_m 3 rfl)) e30 (g := (mkF m 130 #[sJ x0, sS, sI x1, sI x2, sI x3, sI 2, sI ca_, sI cb_, sI cc_, sR b1, sR b5, sR b13, sR b22, sU, sU, sU, sU, sU, sU, sU, sU, sU, sU, sU, sU] [])) rfl (hb hby at_130) (by decide) (by decide)
  obtain ⟨b365, g365⟩ : ∃ z, z = h30.size := ⟨_, rfl⟩
  rw [← g365] at A365 D365 st365
  have Z366 := (Nat.le_trans (Nat.le_trans (Nat.le_trans (Nat.le_trans Z23 E22.1) (Nat.le_of_eq W28.size.symm)) (Nat.le_of_eq W29.size.symm)) (Nat.le_of_eq W30.size.symm))
  have ge367 : n0 ≤ b365 := Nat.le_trans Z366 (Nat.le_of_eq g365.symm)
  have K368 := ((((K25.ext E22).wr W28 (Or.inr sz26)).wr W29 (Or.inr sz26)).wr W30 (Or.inr sz26))
  have sz369 : h0.size ≤ b365 := Nat.le_trans K368.1 (Nat.le_of_eq g365.symm)
  refine og st365 ?_
  have f370 : Fld Z h365 b365 "java/lang/String" "coder" "B" (.int 0) := D365 (Or.inr (hw _ (own_m 27 rfl))) (ty := .byte) (by decide)
  have f371 : Fld Z h365 b365 "java/lang/String" "value" "[B" .null := D365 (Or.inr (hw _ (own_m 29 rfl))) (ty := (.array .byte)) (by decide)
  show oG p e below _ (T365.setTop (mkF m 133 #[sJ x0, sS, sI x1, sI x2, sI x3, sI 2, sI ca_, sI cb_, sI cc_, sR b1, sR b5, sR b13, sR b22, sU, sU, sU, sU, sU, sU, sU, sU, sU, sU, sU, sU] [(.ref b365)]))
  refine og (fun _ hr => XS.dup X365.here hx rfl (hb hby at_133) rfl rfl (XS.aload X365.here hx rfl (hb hby at_134) rfl rfl hr)) ?_
  show oG p e below _ (T365.setTop (mkF m 136 #[sJ x0, sS, sI x1, sI x2, sI x3, sI 2, sI ca_, sI cb_, sI cc_, sR b1, sR b5, sR b13, sR b22, sU, sU, sU, sU, sU, sU, sU, sU, sU, sU, sU, sU] [(.ref b13), (.ref b365), (.ref b365)]))
  have c373 : ¬ (cb_ < (0 : Int32)) := by
    have q0 := rng32 x1
    have q1 := c_mask x1 (255 : Int32) 8 (by decide) (by decide)
    have q2 := c_i2c (x1 &&& (255 : Int32))
    have q3 := congrArg Int32.toInt hca_
    have q4 := (show ((nar .char ca_).toInt - ca_.toInt) % 65536 = 0 ∧ 0 ≤ (nar .char ca_).toInt ∧ (nar .char ca_).toInt < 65536 from c_i2c ca_)
    have q5 := c_iushr x1 (8 : Int32) 8 (by decide) (by decide)
    have q6 := c_mask ((x1.toUInt32 >>> ((8 : Int32) &&& 31).toUInt32).toInt32) (255 : Int32) 8 (by decide) (by decide)
    have q7 := c_i2c (((x1.toUInt32 >>> ((8 : Int32) &&& 31).toUInt32).toInt32) &&& (255 : Int32))
    have q8 := congrArg Int32.toInt hcb_
    have q9 := (show ((nar .char cb_).toInt - cb_.toInt) % 65536 = 0 ∧ 0 ≤ (nar .char cb_).toInt ∧ (nar .char cb_).toInt < 65536 from c_i2c cb_)
    have q10 := c_iushr x1 (16 : Int32) 16 (by decide) (by decide)
    have q11 := c_mask ((x1.toUInt32 >>> ((16 : Int32) &&& 31).toUInt32).toInt32) (255 : Int32) 8 (by decide) (by decide)
    have q12 := c_i2c (((x1.toUInt32 >>> ((16 : Int32) &&& 31).toUInt32).toInt32) &&& (255 : Int32))
    have q13 := congrArg Int32.toInt hcc_
    have q14 := (show ((nar .char cc_).toInt - cc_.toInt) % 65536 = 0 ∧ 0 ≤ (nar .char cc_).toInt ∧ (nar .char cc_).toInt < 65536 from c_i2c cc_)
    have p0 := c12
    have p1 := c21
    have p2 := c31
    simp only [true_implies, Int32.lt_iff_toInt_lt, ← Int32.toInt_inj, Int32.reduceToInt, Int64.lt_iff_toInt_lt, ← Int64.toInt_inj, Int64.reduceToInt] at q0 q1 q2 q3 q4 q5 q6 q7 q8 q9 q10 q11 q12 q13 q14 p0 p1 p2 ⊢
    omega
  have c374 : ¬ ((255 : Int32) < cb_) := by
    have q0 := rng32 x1
    have q1 := c_mask x1 (255 : Int32) 8 (by decide) (by decide)
    have q2 := c_i2c (x1 &&& (255 : Int32))
    have q3 := congrArg Int32.toInt hca_
    have q4 := (show ((nar .char ca_).toInt - ca_.toInt) % 65536 = 0 ∧ 0 ≤ (nar .char ca_).toInt ∧ (nar .char ca_).toInt < 65536 from c_i2c ca_)
    have q5 := c_iushr x1 (8 : Int32) 8 (by decide) (by decide)
    have q6 := c_mask ((x1.toUInt32 >>> ((8 : Int32) &&& 31).toUInt32).toInt32) (255 : Int32) 8 (by decide) (by decide)
    have q7 := c_i2c (((x1.toUInt32 >>> ((8 : Int32) &&& 31).toUInt32).toInt32) &&& (255 : Int32))
    have q8 := congrArg Int32.toInt hcb_
    have q9 := (show ((nar .char cb_).toInt - cb_.toInt) % 65536 = 0 ∧ 0 ≤ (nar .char cb_).toInt ∧ (nar .char cb_).toInt < 65536 from c_i2c cb_)
    have q10 := c_iushr x1 (16 : Int32) 16 (by decide) (by decide)
    have q11 := c_mask ((x1.toUInt32 >>> ((16 : Int32) &&& 31).toUInt32).toInt32) (255 : Int32) 8 (by decide) (by decide)
    have q12 := c_i2c (((x1.toUInt32 >>> ((16 : Int32) &&& 31).toUInt32).toInt32) &&& (255 : Int32))
    have q13 := congrArg Int32.toInt hcc_
    have q14 := (show ((nar .char cc_).toInt - cc_.toInt) % 65536 = 0 ∧ 0 ≤ (nar .char cc_).toInt ∧ (nar .char cc_).toInt < 65536 from c_i2c cc_)
    have p0 := c12
    have p1 := c21
    have p2 := c31
    have p3 := c373
    simp only [true_implies, Int32.lt_iff_toInt_lt, ← Int32.toInt_inj, Int32.reduceToInt, Int64.lt_iff_toInt_lt, ← Int64.toInt_inj, Int64.reduceToInt] at q0 q1 q2 q3 q4 q5 q6 q7 q8 q9 q10 q11 q12 q13 q14 p0 p1 p2 p3 ⊢
    omega
  have c375 : ¬ (ca_ < (0 : Int32)) := by
    have q0 := rng32 x1
    have q1 := c_mask x1 (255 : Int32) 8 (by decide) (by decide)
    have q2 := c_i2c (x1 &&& (255 : Int32))
    have q3 := congrArg Int32.toInt hca_
    have q4 := (show ((nar .char ca_).toInt - ca_.toInt) % 65536 = 0 ∧ 0 ≤ (nar .char ca_).toInt ∧ (nar .char ca_).toInt < 65536 from c_i2c ca_)
    have q5 := c_iushr x1 (8 : Int32) 8 (by decide) (by decide)
    have q6 := c_mask ((x1.toUInt32 >>> ((8 : Int32) &&& 31).toUInt32).toInt32) (255 : Int32) 8 (by decide) (by decide)
    have q7 := c_i2c (((x1.toUInt32 >>> ((8 : Int32) &&& 31).toUInt32).toInt32) &&& (255 : Int32))
    have q8 := congrArg Int32.toInt hcb_
    have q9 := (show ((nar .char cb_).toInt - cb_.toInt) % 65536 = 0 ∧ 0 ≤ (nar .char cb_).toInt ∧ (nar .char cb_).toInt < 65536 from c_i2c cb_)
    have q10 := c_iushr x1 (16 : Int32) 16 (by decide) (by decide)
    have q11 := c_mask ((x1.toUInt32 >>> ((16 : Int32) &&& 31).toUInt32).toInt32) (255 : Int32) 8 (by decide) (by decide)
    have q12 := c_i2c (((x1.toUInt32 >>> ((16 : Int32) &&& 31).toUInt32).toInt32) &&& (255 : Int32))
    have q13 := congrArg Int32.toInt hcc_
    have q14 := (show ((nar .char cc_).toInt - cc_.toInt) % 65536 = 0 ∧ 0 ≤ (nar .char cc_).toInt ∧ (nar .char cc_).toInt < 65536 from c_i2c cc_)
    have p0 := c12
    have p1 := c21
    have p2 := c31
    have p3 := c373
    have p4 := c374
    simp only [true_implies, Int32.lt_iff_toInt_lt, ← Int32.toInt_inj, Int32.reduceToInt, Int64.lt_iff_toInt_lt, ← Int64.toInt_inj, Int64.reduceToInt] at q0 q1 q2 q3 q4 q5 q6 q7 q8 q9 q10 q11 q12 q13 q14 p0 p1 p2 p3 p4 ⊢
    omega
  have c376 : ¬ ((255 : Int32) < ca_) := by
    have q0 := rng32 x1
    have q1 := c_mask x1 (255 : Int32) 8 (by decide) (by decide)
    have q2 := c_i2c (x1 &&& (255 : Int32))
    have q3 := congrArg Int32.toInt hca_
    have q4 := (show ((nar .char ca_).toInt - ca_.toInt) % 65536 = 0 ∧ 0 ≤ (nar .char ca_).toInt ∧ (nar .char ca_).toInt < 65536 from c_i2c ca_)
    have q5 := c_iushr x1 (8 : Int32) 8 (by decide) (by decide)
    have q6 := c_mask ((x1.toUInt32 >>> ((8 : Int32) &&& 31).toUInt32).toInt32) (255 : Int32) 8 (by decide) (by decide)
    have q7 := c_i2c (((x1.toUInt32 >>> ((8 : Int32) &&& 31).toUInt32).toInt32) &&& (255 : Int32))
    have q8 := congrArg Int32.toInt hcb_
    have q9 := (show ((nar .char cb_).toInt - cb_.toInt) % 65536 = 0 ∧ 0 ≤ (nar .char cb_).toInt ∧ (nar .char cb_).toInt < 65536 from c_i2c cb_)
    have q10 := c_iushr x1 (16 : Int32) 16 (by decide) (by decide)
    have q11 := c_mask ((x1.toUInt32 >>> ((16 : Int32) &&& 31).toUInt32).toInt32) (255 : Int32) 8 (by decide) (by decide)
    have q12 := c_i2c (((x1.toUInt32 >>> ((16 : Int32) &&& 31).toUInt32).toInt32) &&& (255 : Int32))
    have q13 := congrArg Int32.toInt hcc_
    have q14 := (show ((nar .char cc_).toInt - cc_.toInt) % 65536 = 0 ∧ 0 ≤ (nar .char cc_).toInt ∧ (nar .char cc_).toInt < 65536 from c_i2c cc_)
    have p0 := c12
    have p1 := c21
    have p2 := c31
    have p3 := c373
    have p4 := c374
    have p5 := c375
    simp only [true_implies, Int32.lt_iff_toInt_lt, ← Int32.toInt_inj, Int32.reduceToInt, Int64.lt_iff_toInt_lt, ← Int64.toInt_inj, Int64.reduceToInt] at q0 q1 q2 q3 q4 q5 q6 q7 q8 q9 q10 q11 q12 q13 q14 p0 p1 p2 p3 p4 p5 ⊢
    omega
  have hp372 : ∀ c ∈ ([ca_, cb_] : List Int32), ¬ c < 0 ∧ ¬ (255 : Int32) < c := (own_lc ⟨c375, c376⟩ (own_lc ⟨c373, c374⟩ own_ln))
  have f377 := (((((f20.ext E22).other W28 (Nat.ne_of_lt (Nat.lt_of_lt_of_le ((EA13.wr W19).wr W20).lt (Nat.le_of_eq g22.symm)))).other W29 (Nat.ne_of_lt (Nat.lt_of_lt_of_le ((EA13.wr W19).wr W20).lt (Nat.le_of_eq g22.symm)))).other W30 (Nat.ne_of_lt (Nat.lt_of_lt_of_le ((EA13.wr W19).wr W20).lt (Nat.le_of_eq g22.symm)))).ext E365)
  have K378 := (K368.ext E365)
  have f379 := (own_sta_keep S_COMPACT_STRINGS K378 all0)
  have Z380 := (Nat.le_trans Z366 E365.1)
  refine own_newS X365 hx hZ hown hw (hw _ (own_m 4 rfl)) (hw _ (own_m 5 rfl)) (hw _ (own_m 6 rfl)) (hw _ (own_m 2 rfl)) [ca_, cb_] ge367 Z380 A365 f371 f370 f377 f379 hs_COMPACT_STRINGS (n := 2) rfl rfl (by decide) (by decide) hp372 (by decide) (W := 1) (by decide) (by decide) (by decide) e365 (by rw [hml]; rfl) (Nat.le_of_eq rfl) (hb hby at_136) ?_
  intro T372 L372 b372_0 kb372_0 X372 N372q K372 f372_0 f372_1 ge372_0 sz372_0 ne372_0 f372_2 f372_3
  have N372 := Fr.app N30 N372q
  have sz381 : h0.size ≤ b372_0 := Nat.le_trans K378.1 sz372_0
  show oG p e below _ (T372.setTop (mkF m 139 #[sJ x0, sS, sI x1, sI x2, sI x3, sI 2, sI ca_, sI cb_, sI cc_, sR b1, sR b5, sR b13, sR b22, sU, sU, sU, sU, sU, sU, sU, sU, sU, sU, sU, sU] [(.ref b365)]))
  refine og (fun _ hr => XS.astore X372.here hx rfl (hb hby at_139) rfl rfl (l' := #[sJ x0, sS, sI x1, sI x2, sI x3, sI 2, sI ca_, sI cb_, sI cc_, sR b1, sR b5, sR b13, sR b22, sR b365, sU, sU, sU, sU, sU, sU, sU, sU, sU, sU, sU]) rfl (XS.goto X372.here hx rfl (pc0 := 141) (pc' := 155) rfl (hb hby at_141) (by decide) (by decide) hr)) ?_
  show oG p e below _ (T372.setTop (mkF m 155 #[sJ x0, sS, sI x1, sI x2, sI x3, sI 2, sI ca_, sI cb_, sI cc_, sR b1, sR b5, sR b13, sR b22, sR b365, sU, sU, sU, sU, sU, sU, sU, sU, sU, sU, sU] []))
  obtain ⟨T382, h382, X382, e382, E382, A382, D382, -, st382⟩ := newO X372 hx hZ hown (hw _ (own_m 30 rfl)) (hw _ (own_m 31 rfl)) (hw _ (own_m 32 rfl)) rfl (g := (mkF m 155 #[sJ x0, sS, sI x1, sI x2, sI x3, sI 2, sI ca_, sI cb_, sI cc_, sR b1, sR b5, sR b13, sR b22, sR b365, sU, sU, sU, sU, sU, sU, sU, sU, sU, sU, sU] [])) rfl (hb hby at_155) (by decide) (by decide)
  obtain ⟨b382, g382⟩ : ∃ z, z = T372.heap.size := ⟨_, rfl⟩
  rw [← g382] at A382 D382 st382
  have Z383 := (Nat.le_trans Z380 K372.1)
  have ge384 : n0 ≤ b382 := Nat.le_trans Z383 (Nat.le_of_eq g382.symm)
  have K385 := (K378.trans K372 (allS (Or.inr sz369) all0))
  have sz386 : h0.size ≤ b382 := Nat.le_trans K385.1 (Nat.le_of_eq g382.symm)
  refine og st382 ?_
  have f387 : Fld Z h382 b382 "com/example/strict_tariff/stricttariff/pricing/RefusedReading" "line" "J" (.long (0 : Int64)) := D382 (Or.inr (hw _ (own_m 38 rfl))) (ty := .long) (by decide)
  have f388 : Fld Z h382 b382 "com/example/strict_tariff/stricttariff/pricing/RefusedReading" "reason" "Ljava/lang/String;" .null := D382 (Or.inr (hw _ (own_m 40 rfl))) (ty := (.object "java/lang/String")) (by decide)
  show oG p e below _ (T382.setTop (mkF m 158 #[sJ x0, sS, sI x1, sI x2, sI x3, sI 2, sI ca_, sI cb_, sI cc_, sR b1, sR b5, sR b13, sR b22, sR b365, sU, sU, sU, sU, sU, sU, sU, sU, sU, sU, sU] [(.ref b382)]))
  refine og (fun _ hr => XS.dup X382.here hx rfl (hb hby at_158) rfl rfl (XS.lloadN X382.here hx rfl (hb hby at_159) rfl (XS.aload X382.here hx rfl (hb hby at_160) rfl rfl hr))) ?_
  show oG p e below _ (T382.setTop (mkF m 162 #[sJ x0, sS, sI x1, sI x2, sI x3, sI 2, sI ca_, sI cb_, sI cc_, sR b1, sR b5, sR b13, sR b22, sR b365, sU, sU, sU, sU, sU, sU, sU, sU, sU, sU, sU] [(.ref b365), (.long x0), (.ref b382), (.ref b382)]))
  have Z390 := (Nat.le_trans Z383 E382.1)
  refine own_cp X382 hx hZ hown rfl (hw _ (own_m 33 rfl)) (hw _ (own_m 34 rfl)) (hw _ (own_m 32 rfl)) (hw _ (own_m 35 rfl)) (by decide) (rm := { frames := 1, cells := 0, slots := 0, locals := 12 }) (rm_init_13 l Z a0 hw [] b382 x0 b365 h382 n0 Z390 A382 f387 f388 ge384) (by decide) (W := 1) (by decide) (by decide) (by decide) e382 (by rw [hml]; rfl) (argsL := [(.long x0), (.ref b365)]) (lenOf own_pd27 rfl) (rest := [(.ref b382)]) rfl rfl (Nat.le_of_eq rfl) (hb hby at_162) ?_
  intro _ T389 L389 X389 hQ389
  obtain ⟨rfl, N389q, K389, f389_0, f389_1⟩ := hQ389
  have N389 := Fr.app N372 N389q
  show oG p e below _ (T389.setTop (mkF m 165 #[sJ x0, sS, sI x1, sI x2, sI x3, sI 2, sI ca_, sI cb_, sI cc_, sR b1, sR b5, sR b13, sR b22, sR b365, sU, sU, sU, sU, sU, sU, sU, sU, sU, sU, sU] [(.ref b382)]))
  have K391 := ((K385.ext E382).trans K389 (allS (Or.inr sz386) all0))
  have f392 := ((f372_3.ext E382).keep K389 (ninS (Nat.ne_of_lt (Nat.lt_of_lt_of_le f372_3.lt (Nat.le_of_eq g382.symm))) nin0))
  have f393 : Arv Z T389.heap b372_0 kb372_0 .byte (2 : Int32) (own_lb [ca_, cb_]) (.int 0) := f392
  have hla394 : ∀ c ∈ [ca_, cb_], ¬ c < 0 ∧ ¬ (255 : Int32) < c := (own_lc ⟨c375, c376⟩ (own_lc ⟨c373, c374⟩ own_ln))
  have f396 := (A382.keep K389)
  have f397 := ((f372_0.ext E382).keep K389)
  have f398 := ((f372_1.ext E382).keep K389 (ninS (Nat.ne_of_lt (Nat.lt_of_lt_of_le f372_0.lt (Nat.le_of_eq g382.symm))) nin0))
  have f399 := ((f372_2.ext E382).keep K389 (ninS (Nat.ne_of_lt (Nat.lt_of_lt_of_le f372_0.lt (Nat.le_of_eq g382.symm))) nin0))
  have f400 := (own_sta_keep ((own_sta_keep f379 K372 (allS (own_ns_exa A365) all0)).ext E382) K389 (allS (own_ns_exa A382) all0))
  have Z401 := (Nat.le_trans Z390 K389.1)
  have hZo402 := hZ
  have A403 := A0.trans (CHr.ext E1 A0.1)
  have A404 := A403.trans (CHr.ext E5 A403.1)
  have sf406 := (Safe.ext E5 A403.1 (Safe.new (Nat.le_of_eq g5.symm)))
  have A405 := A404.trans (CHr.wr W11 sf406 A404.1)
  have A407 := A405.trans (CHr.ext E13 A405.1)
  have sf409 := (Safe.ext E13 A405.1 (Safe.new (Nat.le_of_eq g13.symm)))
  have A408 := A407.trans (CHr.wr W19 sf409 A407.1)
  have sf411 := (Safe.wr W19 sf409 A407.1 sf409)
  have A410 := A408.trans (CHr.wr W20 sf411 A408.1)
  have A412 := A410.trans (CHr.ext E22 A410.1)
  have sf414 := (Safe.ext E22 A410.1 (Safe.new (Nat.le_of_eq g22.symm)))
  have A413 := A412.trans (CHr.wr W28 sf414 A412.1)
  have sf416 := (Safe.wr W28 sf414 A412.1 sf414)
  have A415 := A413.trans (CHr.wr W29 sf416 A413.1)
  have sf418 := (Safe.wr W29 sf416 A413.1 sf416)
  have A417 := A415.trans (CHr.wr W30 sf418 A415.1)
  have A419 := A417.trans (CHr.ext E365 A417.1)
  have sf421 := (Safe.ext E365 A417.1 (Safe.new (Nat.le_of_eq g365.symm)))
  have A420 := A419.trans (CHr.keep K372 (sfS sf421 sf0) A419.1)
  have A422 := A420.trans (CHr.ext E382 A420.1)
  have sf424 := (Safe.ext E382 A420.1 (Safe.new (Nat.le_of_eq g382.symm)))
  have A423 := A422.trans (CHr.keep K389 (sfS sf424 sf0) A422.1)
  have hk425 := (Nat.le_trans (Nat.le_trans (Nat.le_trans (Nat.le_trans (Nat.le_trans (Nat.le_trans (Nat.le_trans (Nat.le_trans (Nat.le_trans (Nat.le_trans (Nat.le_trans (Nat.le_trans (Nat.le_trans (Nat.le_trans hk E1.1) E5.1) (Nat.le_of_eq W11.size.symm)) E13.1) (Nat.le_of_eq W19.size.symm)) (Nat.le_of_eq W20.size.symm)) E22.1) (Nat.le_of_eq W28.size.symm)) (Nat.le_of_eq W29.size.symm)) (Nat.le_of_eq W30.size.symm)) E365.1) K372.1) E382.1) K389.1)
  refine own_cvW X389 hx hZ hown (notFace_of_selects (args := #[]) (mvT (s := s.setVm _) hZ (hw _ (own_m 44 rfl)))) (hw _ (own_m 41 rfl)) (hw _ (own_m 42 rfl)) (hw _ (own_m 44 rfl)) (hw _ (own_m 43 rfl)) (hw _ (own_m 32 rfl)) (hw _ (own_m 45 rfl)) (by decide) f396 (rm := { frames := 6, cells := 9, slots := 134, locals := 132 }) (rm_msg l Z a0 hw [] b382 b365 b372_0 kb372_0 (2 : Int32) [ca_, cb_] x0 nN_ ist_ da_ db_ Da_ Db_ i_COMPACT_STRINGS T389.heap n0 Z401 f396 f389_0 f389_1 f397 f398 f399 f393 rfl (Nat.le_of_ble_eq_true rfl) (show StrChars.Road.CodA [ca_, cb_] 0 (2 : Int32) (own_lb [ca_, cb_]) from Or.inl ⟨rfl, rfl, rfl, fun c hc => (hla394 c hc).2⟩) (own_up hla394) hn63_ hng_ (own_T_keep Td_ K391 nin0 nin0 nin0) htn_ f400 hs_COMPACT_STRINGS) (by decide) (W := 0) (by decide) (by decide) (by decide) rfl hEL A423.1 hS hk425 (by rw [hml]; rfl) (argsL := []) (lenOf own_pd25 rfl) (rest := []) rfl rfl (Nat.le_of_eq rfl) (hb hby at_165) ?_
  intro _ T395 L395 X395 hQ395 Ac395 hS hZ hown
  obtain ⟨b395_0, b395_1, kb395_0, rfl, N395q, K395, ge395_0, sz395_0, f395_0, f395_1, f395_2, f395_3⟩ := hQ395
  have N395 := Fr.app N389 N395q
  have sz426 : h0.size ≤ b395_0 := Nat.le_trans K391.1 sz395_0
  show oG p e below _ (T395.setTop (mkF m 168 #[sJ x0, sS, sI x1, sI x2, sI x3, sI 2, sI ca_, sI cb_, sI cc_, sR b1, sR b5, sR b13, sR b22, sR b365, sU, sU, sU, sU, sU, sU, sU, sU, sU, sU, sU] [(.ref b395_0)]))
  refine og (fun _ hr => XS.astore X395.here hx rfl (hb hby at_168) rfl rfl (l' := #[sJ x0, sS, sI x1, sI x2, sI x3, sI 2, sI ca_, sI cb_, sI cc_, sR b1, sR b5, sR b13, sR b22, sR b365, sR b395_0, sU, sU, sU, sU, sU, sU, sU, sU, sU, sU]) rfl hr) ?_
  show oG p e below _ (T395.setTop (mkF m 170 #[sJ x0, sS, sI x1, sI x2, sI x3, sI 2, sI ca_, sI cb_, sI cc_, sR b1, sR b5, sR b13, sR b22, sR b365, sR b395_0, sU, sU, sU, sU, sU, sU, sU, sU, sU, sU] []))
  have K427 := (K391.trans K395 all0)
  have A428 := A423.trans Ac395
  exact jM_ T395 _ _ [ca_, cb_] (2 : Int32) b365 b395_0 b395_1 kb395_0 (X395.mono (by decide) (by decide)) N395 rfl K427 A428 hS hZ hown (Or.inr (Or.inr (Or.inl ⟨rfl, rfl⟩))) hla394 f395_0 f395_1 f395_2 f395_3
theorem own_elsub : ∀ p ∈ own_EL, p ∈ consts_1 := by simp [own_EL, consts_1]
set_option maxRecDepth 65536 in
set_option maxHeartbeats 40000000 in
theorem comes_1 {Post : Tables → Env → Array Value → State → Outcome → State → Prop} (hpost : ∀ tb e args s v u, (limb_1_1.after args s (.returned v) u = true ∧ limb_1_2.after args s (.returned v) u = true ∧ True) → FramedW s (.returned v) u (Jvm.fieldLocs frame_1_writes args s ++ Jvm.arrayLocs frame_1_arrays args s ++ Jvm.staticLocs frame_1_statics s) 48 3520 → Post tb e args s (.returned v) u) :
    ArmFor flags0 classFile x code maxLocals ret World_1 tables_1 room_1 Calls_1 rest_1 Pre_1 Post := by
  intro l hfl _ _ p e ha hc hk s m args below hf hA hF happ hP
  obtain ⟨hcalls, hrest, hpre⟩ := hP
  obtain ⟨-, -, -, hnamed, -, -, -, hat⟩ := (Spec.applies_iff hf).mp happ
  obtain ⟨hg, hn⟩ := and_e (Cond.before_iff.mp (show (Jvm.Cond.and given_1 narrow_1).before args s = true from hpre))
  obtain ⟨g1, g2⟩ := and_e hg
  obtain ⟨g3, g4⟩ := and_e g2
  obtain ⟨g5, g6⟩ := and_e g4
  obtain ⟨g7, g8⟩ := and_e g6
  obtain ⟨w0, w1, w2, w3, rfl⟩ : ∃ w0 w1 w2 w3 : Value, args = #[w0, w1, w2, w3] := by
    have hs : args.size = 4 := by simpa [Cond.value, given_1] using g1
    obtain ⟨L⟩ := args
    match L, hs with
    | [w0, w1, w2, w3], _ => exact ⟨w0, w1, w2, w3, rfl⟩
  have hw := fun d (hd : d ∈ tables_1) => atoms_spec (ws := Jvm.Cond.code x code maxLocals ret :: tables_1) hat d (List.mem_cons_of_mem _ hd)
  have hfit : Fit s := fun {y c} hc i hi => by
    obtain ⟨ha, rfl⟩ := Array.getElem?_eq_some_iff.mp hc
    have q := List.all_eq_true.mp ((Array.all_eq_true_iff_forall_mem.mp hF) _ (Array.getElem_mem ha)) i (List.mem_range.mpr hi)
    simpa [Array.getElem?_eq_getElem hi] using q
  obtain ⟨hsets, hown0⟩ := atoms_of _ (rest_1_c_eq ▸ (show rest_1_c.before _ s = true from hrest))
  have hr0 := Cond.before_iff.mp hown0
  obtain ⟨i0, ei0⟩ := isL_v g3
  obtain rfl : w0 = (.long i0) := Option.some.inj ei0
  obtain ⟨i1, ei1⟩ := is_v g5
  obtain rfl : w1 = (.int i1) := Option.some.inj ei1
  obtain ⟨i2, ei2⟩ := is_v g7
  obtain rfl : w2 = (.int i2) := Option.some.inj ei2
  obtain ⟨i3, ei3⟩ := is_v g8
  obtain rfl : w3 = (.int i3) := Option.some.inj ei3
  obtain ⟨i_COMPACT_STRINGS, ei_COMPACT_STRINGS⟩ := is_v (Cond.before_iff.mp (hsets _ (List.mem_of_getElem? (i := 1) rfl)))
  have S_COMPACT_STRINGS := Sta.start ei_COMPACT_STRINGS (Or.inl (hsets _ (List.mem_of_getElem? (i := 0) rfl)))
  have hs_COMPACT_STRINGS : ¬ (i_COMPACT_STRINGS = (0 : Int32)) := gotF (Cond.eq_ints ei_COMPACT_STRINGS (Term.int_eval _)) (not_v (Cond.before_iff.mp (hsets _ (List.mem_of_getElem? (i := 2) rfl))))
  obtain ⟨v_SIOOBE_FORMATTER, ev_SIOOBE_FORMATTER, hv_SIOOBE_FORMATTER⟩ := isR_v (Cond.before_iff.mp (hsets _ (List.mem_of_getElem? (i := 8) rfl)))
  have S_SIOOBE_FORMATTER := Sta.start ev_SIOOBE_FORMATTER (Or.inl (hsets _ (List.mem_of_getElem? (i := 7) rfl)))
  obtain ⟨r_DigitOnes, er_DigitOnes⟩ := exa_v (Cond.before_iff.mp (hsets _ (List.mem_of_getElem? (i := 12) rfl)))
  have S_DigitOnes := Sta.start er_DigitOnes (Or.inl (hsets _ (List.mem_of_getElem? (i := 11) rfl)))
  have E_DigitOnes := Exa.start er_DigitOnes (Cond.before_iff.mp (hsets _ (List.mem_of_getElem? (i := 12) rfl)))
  obtain ⟨r_DigitTens, er_DigitTens⟩ := exa_v (Cond.before_iff.mp (hsets _ (List.mem_of_getElem? (i := 17) rfl)))
  have S_DigitTens := Sta.start er_DigitTens (Or.inl (hsets _ (List.mem_of_getElem? (i := 16) rfl)))
  have E_DigitTens := Exa.start er_DigitTens (Cond.before_iff.mp (hsets _ (List.mem_of_getElem? (i := 17) rfl)))
  obtain ⟨nN_, hn63_, hng_⟩ := Jvm.Free.SBG.negL_of i0
  obtain ⟨ist_, da_, db_, Da_, Db_, Td_, htn_⟩ := own_T0 (hsets _ (List.mem_of_getElem? (i := 9) rfl)) (hw _ (own_m 19 rfl)) (hsets _ (List.mem_of_getElem? (i := 10) rfl)) (hsets _ (List.mem_of_getElem? (i := 12) rfl)) (hsets _ (List.mem_of_getElem? (i := 13) rfl)) (hsets _ (List.mem_of_getElem? (i := 14) rfl)) (hsets _ (List.mem_of_getElem? (i := 15) rfl)) (hsets _ (List.mem_of_getElem? (i := 17) rfl)) (hsets _ (List.mem_of_getElem? (i := 18) rfl)) (hsets _ (List.mem_of_getElem? (i := 19) rfl))
  obtain ⟨n, o, h1, h2, h3, _, L, rfl, ⟨rfl, N⟩, -, hq⟩ := rm_law l s _ hw tables_1 i0 i1 i2 i3 i_COMPACT_STRINGS v_SIOOBE_FORMATTER nN_ ist_ da_ db_ Da_ Db_ s.heap s.heap.size (Nat.le_refl _) S_COMPACT_STRINGS S_SIOOBE_FORMATTER hs_COMPACT_STRINGS hv_SIOOBE_FORMATTER hn63_ hng_ Td_ htn_ p e ha hc hk s m _ below hf ((Spec.applies_iff_loose hf).mp happ).1 ⟨rfl, State.Warmed39.refl s, rfl, CHv.start (own_ew hw) (fun p hp => hcalls.1 p (own_elsub p hp)) (hsets _ (List.mem_of_getElem? (i := 2) rfl)) (hw _ (own_m 19 rfl)) (hw _ (own_m 2 rfl))⟩ trivial
  refine ⟨n, _, h1, h2, h3, hpost _ _ _ _ _ _ ⟨Cond.after_iff.mpr rfl, Cond.after_iff.mpr (eq_i res_at (Term.int_eval (1)) rfl), trivial⟩ ⟨hq.1, hq.2.1, hq.2.2.1, (hq.2.2.2.sift fun y hy => Or.inr (N y hy)).mono (by decide) (by decide)⟩⟩
theorem main_1_1 : Claimed_1_1 := comes_1 fun _ _ _ _ _ _ h hF => ⟨h.1, hF⟩
theorem main_1_2 : Claimed_1_2 := comes_1 fun _ _ _ _ _ _ h hF => ⟨h.2.1, hF⟩
end Jvm.Pilot.@@N@@
namespace Jvm.Pilot.@@N@@
open Jvm Jvm.ClassFile Sem Op Lib Jvm.Free Jvm.Stand Jvm.Pilot.@@N@@.Jvm.D
/-! MADE BY PROGRAM (witnessworld.py) out of the Statement's table words and the real class files: 31 classes; the members and pool entries that the words name. The judged class is class 1, her method 2. -/
namespace start1
open Jvm.ClassFile
def u (s : String) : CpInfo := .utf8 (stringToUtf16 s)
/-- a pool by its gaps: so many unusable entries, then the entry; so many at the end -/
def gap : Nat → List CpInfo → List CpInfo
  | 0, r => r
  | n + 1, r => .unusable :: gap n r
def poolList (es : List (Nat × CpInfo)) (last : Nat) : List CpInfo := es.foldr (fun e r => gap e.1 (e.2 :: r)) (gap last [])
def pool (es : List (Nat × CpInfo)) (last : Nat) : Array CpInfo := ⟨poolList es last⟩
def fileOf (pool : Array CpInfo) (this : Nat) (attrs : Array Attribute := #[]) (ms : Array MethodInfo := #[]) (fl : Nat := 33) (sup : Nat := 0) (ifs : Array Nat := #[]) (fds : Array FieldInfo := #[]) : ClassFile where
  minorVersion := 0
  majorVersion := 65
  constantPool := pool
  accessFlags := fl
  thisClass := this
  superClass := sup
  interfaces := ifs
  fields := fds
  methods := ms
  attributes := attrs
def plain (name : String) (sup : Option ClassId) : Class where
  name := name
  kind := .ordinary
  loader := none
  accessFlags := 33
  super := sup
  interfaces := #[]
  cf := none
  fields := #[]
  methods := #[]
  instanceTypes := #[]
  staticTypes := #[]
  resolved := #[]
  callSites := []
  init := .initialized
  statics := none
  mirror := none

def pool0 : Array CpInfo := pool [(5, u "<init>"), (0, u "()V"), (1, .class_ 10), (1, u "java/lang/Object"), (85, u "clone"), (0, u "()Ljava/lang/Object;")] 26

def k0c0 : Code := { maxStack := 0, maxLocals := 1, code := object_method_1_code, exceptionTable := #[], attributes := #[] }
def k0m0 : Method := { name := "<init>", desc := "()V", sig := { parameters := [], returnType := none }, accessFlags := 1, code := some k0c0 }
def k0m1 : Method := { name := "clone", desc := "()Ljava/lang/Object;", sig := { parameters := [], returnType := some (.object "java/lang/Object") }, accessFlags := 260, code := none }
/-- java/lang/Object -/
def k0 : Class := { plain "java/lang/Object" none with
  accessFlags := 33
  interfaces := #[]
  cf := some (fileOf pool0 8 #[] #[{ accessFlags := 1, nameIndex := 5, descriptorIndex := 6, attributes := #[] }, { accessFlags := 260, nameIndex := 96, descriptorIndex := 97, attributes := #[] }] 33 0 #[] #[])
  fields := #[]
  methods := #[k0m0, k0m1]
  instanceTypes := #[]
  staticTypes := #[]
  resolved := Array.replicate 124 none
  statics := none }

def pool1 : Array CpInfo := pool [(2, .class_ 4), (1, u "java/lang/Object"), (0, u "<init>"), (0, u "()V"), (0, .long 10), (1, .long 100), (1, .long 1000), (1, .long 10000), (1, .long 100000), (1, .long 1000000), (1, .long 10000000), (1, .long 100000000), (1, .long 1000000000), (1, .long 10000000000), (1, .long 100000000000), (1, .long 1000000000000), (1, .long 10000000000000), (1, .long 100000000000000), (1, .long 1000000000000000), (1, .long 10000000000000000), (1, .long 100000000000000000), (1, .long 1000000000000000000), (1, .class_ 44), (0, u "java/lang/String"), (0, .methodref 43 46), (0, .nameAndType 5 47), (0, u "([C)V"), (0, .class_ 49), (0, u "com/example/strict_tariff/stricttariff/pricing/RefusedReading"), (0, .methodref 48 51), (0, .nameAndType 5 52), (0, u "(JLjava/lang/String;)V"), (0, .methodref 48 54), (0, .nameAndType 55 56), (0, u "message"), (0, u "()Ljava/lang/String;"), (0, .methodref 43 58), (0, .nameAndType 59 60), (0, u "length"), (0, u "()I"), (0, .methodref 43 62), (0, .nameAndType 63 64), (0, u "charAt"), (0, u "(I)C"), (0, .methodref 66 67), (0, .class_ 68), (0, .nameAndType 69 70), (0, u "com/example/strict_tariff/stricttariff/pricing/RefusedReadingMessagePinLaw"), (0, u "pow10"), (0, u "(I)J"), (0, .integer 2147483647), (2, u "law"), (0, u "(JIII)Z")] 5

def k1m0 : Method := { name := "<init>", desc := "()V", sig := { parameters := [], returnType := none }, accessFlags := 1, code := none }
def k1c1 : Code := { maxStack := 5, maxLocals := 2, code := method_2_code, exceptionTable := #[], attributes := #[] }
def k1m1 : Method := { name := "pow10", desc := "(I)J", sig := { parameters := [.int], returnType := some .long }, accessFlags := 10, code := some k1c1 }
def k1c2 : Code := { maxStack := 5, maxLocals := 25, code := code, exceptionTable := #[], attributes := #[] }
def k1m2 : Method := { name := "law", desc := "(JIII)Z", sig := { parameters := [.long, .int, .int, .int], returnType := some .boolean }, accessFlags := 9, code := some k1c2 }
/-- com/example/strict_tariff/stricttariff/pricing/RefusedReadingMessagePinLaw -/
def k1 : Class := { plain "com/example/strict_tariff/stricttariff/pricing/RefusedReadingMessagePinLaw" (some 0) with
  accessFlags := 49
  interfaces := #[]
  cf := some (fileOf pool1 66 #[] #[{ accessFlags := 1, nameIndex := 5, descriptorIndex := 6, attributes := #[] }, { accessFlags := 10, nameIndex := 69, descriptorIndex := 70, attributes := #[] }, { accessFlags := 9, nameIndex := 74, descriptorIndex := 75, attributes := #[] }] 49 2 #[] #[])
  fields := #[]
  methods := #[k1m0, k1m1, k1m2]
  instanceTypes := #[]
  staticTypes := #[]
  resolved := Array.replicate 81 none
  statics := none }

def pool2 : Array CpInfo := pool [(1, .class_ 2), (0, u "java/io/Serializable"), (0, .class_ 4), (0, u "java/lang/Object")] 2

/-- java/io/Serializable -/
def k2 : Class := { plain "java/io/Serializable" (some 0) with
  accessFlags := 1537
  interfaces := #[]
  cf := some (fileOf pool2 1 #[] #[] 1537 3 #[] #[])
  fields := #[]
  methods := #[]
  instanceTypes := #[]
  staticTypes := #[]
  resolved := Array.replicate 7 none
  statics := none }

def pool3 : Array CpInfo := pool [(1, .class_ 2), (0, u "java/lang/Comparable"), (0, .class_ 4), (0, u "java/lang/Object")] 7

/-- java/lang/Comparable -/
def k3 : Class := { plain "java/lang/Comparable" (some 0) with
  accessFlags := 1537
  interfaces := #[]
  cf := some (fileOf pool3 1 #[] #[] 1537 3 #[] #[])
  fields := #[]
  methods := #[]
  instanceTypes := #[]
  staticTypes := #[]
  resolved := Array.replicate 12 none
  statics := none }

def pool4 : Array CpInfo := pool [(2, .class_ 4), (1, u "java/lang/CharSequence"), (42, .class_ 48), (0, u "java/lang/CharSequence$1CodePointIterator"), (10, .class_ 60), (0, u "java/lang/CharSequence$1CharIterator"), (5, .class_ 67), (0, u "java/lang/Object")] 63

/-- java/lang/CharSequence -/
def k4 : Class := { plain "java/lang/CharSequence" (some 0) with
  accessFlags := 1537
  interfaces := #[]
  cf := some (fileOf pool4 2 #[.nestMembers #[47, 59]] #[] 1537 66 #[] #[])
  fields := #[]
  methods := #[]
  instanceTypes := #[]
  staticTypes := #[]
  resolved := Array.replicate 131 none
  statics := none }

def pool5 : Array CpInfo := pool [(1, .class_ 2), (0, u "java/lang/constant/Constable"), (0, .class_ 4), (0, u "java/lang/Object")] 6

/-- java/lang/constant/Constable -/
def k5 : Class := { plain "java/lang/constant/Constable" (some 0) with
  accessFlags := 1537
  interfaces := #[]
  cf := some (fileOf pool5 1 #[] #[] 1537 3 #[] #[])
  fields := #[]
  methods := #[]
  instanceTypes := #[]
  staticTypes := #[]
  resolved := Array.replicate 11 none
  statics := none }

def pool6 : Array CpInfo := pool [(1, .class_ 2), (0, u "java/lang/constant/ConstantDesc"), (0, .class_ 4), (0, u "java/lang/Object")] 32

/-- java/lang/constant/ConstantDesc -/
def k6 : Class := { plain "java/lang/constant/ConstantDesc" (some 0) with
  accessFlags := 1537
  interfaces := #[]
  cf := some (fileOf pool6 1 #[] #[] 1537 3 #[] #[])
  fields := #[]
  methods := #[]
  instanceTypes := #[]
  staticTypes := #[]
  resolved := Array.replicate 37 none
  statics := none }

def pool7 : Array CpInfo := pool [(1, .methodref 2 3), (0, .class_ 4), (0, .nameAndType 5 6), (0, u "java/lang/Object"), (0, u "<init>"), (0, u "()V"), (0, .string 8), (0, u ""), (0, .fieldref 10 11), (0, .class_ 12), (0, .nameAndType 13 14), (0, u "java/lang/String"), (0, u "value"), (0, u "[B"), (0, .fieldref 10 16), (0, .nameAndType 17 18), (0, u "coder"), (0, u "B"), (2, u "hash"), (0, u "I"), (2, u "hashIsZero"), (0, u "Z"), (0, .methodref 10 28), (0, .nameAndType 5 29), (0, u "([CIILjava/lang/Void;)V"), (8, .fieldref 10 39), (0, .nameAndType 40 26), (0, u "COMPACT_STRINGS"), (1, .class_ 44), (1, u "java/lang/StringUTF16"), (0, u "compress"), (1, .methodref 42 48), (0, .nameAndType 49 50), (0, u "coderFromArrayLen"), (0, u "([BI)B"), (3, .methodref 55 56), (0, .class_ 57), (0, .nameAndType 58 59), (0, u "java/util/Arrays"), (0, u "copyOfRange"), (0, u "([BII)[B"), (47, .class_ 109), (1, u "java/lang/StringLatin1"), (32, u "()Z"), (34, .methodref 42 178), (0, .nameAndType 45 179), (0, u "([CII)[B"), (13, .class_ 195), (1, u "java/lang/System"), (16, .methodref 193 213), (0, .nameAndType 214 215), (0, u "arraycopy"), (0, u "(Ljava/lang/Object;ILjava/lang/Object;II)V"), (118, u "()I"), (0, .methodref 10 336), (0, .nameAndType 17 337), (0, u "()B"), (2, u "()[B"), (22, u "([BI)C"), (27, u "(II)V"), (35, u "(I)C"), (61, .methodref 10 490), (0, .nameAndType 5 491), (0, u "(Ljava/lang/AbstractStringBuilder;Ljava/lang/Void;)V"), (0, .methodref 10 493), (0, .nameAndType 494 142), (0, u "isLatin1"), (0, .methodref 107 496), (0, .nameAndType 497 363), (0, u "charAt"), (3, u "checkIndex"), (4, .nameAndType 507 334), (0, u "length"), (24, u "getBytes"), (16, .methodref 550 506), (0, .class_ 551), (0, u "java/lang/AbstractStringBuilder"), (0, .methodref 550 553), (0, .nameAndType 554 340), (0, u "getValue"), (20, .class_ 576), (0, u "java/lang/CharSequence"), (22, u "CASE_INSENSITIVE_ORDER"), (0, u "Ljava/util/Comparator;"), (220, u "([BIB)V"), (188, u "([C)V"), (36, .methodref 550 493), (5, .fieldref 1054 1055), (0, .class_ 1056), (0, .nameAndType 1057 1058), (0, u "jdk/internal/util/Preconditions"), (0, u "SIOOBE_FORMATTER"), (0, u "Ljava/util/function/BiFunction;"), (0, .methodref 1054 1060), (0, .nameAndType 501 1061), (0, u "(IILjava/util/function/BiFunction;)I"), (39, u "serialPersistentFields"), (0, u "[Ljava/io/ObjectStreamField;"), (0, .class_ 1104), (0, u "java/lang/String$CaseInsensitiveComparator"), (1, .class_ 1107), (0, u "java/io/Serializable"), (0, .class_ 1109), (0, u "java/lang/Comparable"), (0, .class_ 1111), (0, u "java/lang/constant/Constable"), (0, .class_ 1113), (0, u "java/lang/constant/ConstantDesc"), (2, u "serialVersionUID"), (0, u "J"), (3, u "REPL"), (0, u "C"), (2, u "LATIN1"), (1, u "UTF16"), (105, u "(Ljava/lang/StringBuilder;)V")] 217

def k7m0 : Method := { name := "<init>", desc := "()V", sig := { parameters := [], returnType := none }, accessFlags := 1, code := none }
def k7c1 : Code := { maxStack := 5, maxLocals := 2, code := jdk_42_method_3_code, exceptionTable := #[], attributes := #[] }
def k7m1 : Method := { name := "<init>", desc := "([C)V", sig := { parameters := [(.array .char)], returnType := none }, accessFlags := 1, code := some k7c1 }
def k7c2 : Code := { maxStack := 3, maxLocals := 2, code := jdk_42_method_53_code, exceptionTable := #[], attributes := #[] }
def k7m2 : Method := { name := "<init>", desc := "(Ljava/lang/StringBuilder;)V", sig := { parameters := [(.object "java/lang/StringBuilder")], returnType := none }, accessFlags := 1, code := some k7c2 }
def k7c3 : Code := { maxStack := 2, maxLocals := 1, code := jdk_42_method_54_code, exceptionTable := #[], attributes := #[] }
def k7m3 : Method := { name := "length", desc := "()I", sig := { parameters := [], returnType := some .int }, accessFlags := 1, code := some k7c3 }
def k7c4 : Code := { maxStack := 2, maxLocals := 2, code := jdk_42_method_56_code, exceptionTable := #[], attributes := #[] }
def k7m4 : Method := { name := "charAt", desc := "(I)C", sig := { parameters := [.int], returnType := some .char }, accessFlags := 1, code := some k7c4 }
def k7c5 : Code := { maxStack := 5, maxLocals := 4, code := jdk_42_method_147_code, exceptionTable := #[], attributes := #[] }
def k7m5 : Method := { name := "getBytes", desc := "([BIB)V", sig := { parameters := [(.array .byte), .int, .byte], returnType := none }, accessFlags := 0, code := some k7c5 }
def k7c6 : Code := { maxStack := 4, maxLocals := 6, code := jdk_42_method_149_code, exceptionTable := #[], attributes := #[] }
def k7m6 : Method := { name := "<init>", desc := "([CIILjava/lang/Void;)V", sig := { parameters := [(.array .char), .int, .int, (.object "java/lang/Void")], returnType := none }, accessFlags := 2, code := some k7c6 }
def k7c7 : Code := { maxStack := 5, maxLocals := 5, code := jdk_42_method_150_code, exceptionTable := #[], attributes := #[] }
def k7m7 : Method := { name := "<init>", desc := "(Ljava/lang/AbstractStringBuilder;Ljava/lang/Void;)V", sig := { parameters := [(.object "java/lang/AbstractStringBuilder"), (.object "java/lang/Void")], returnType := none }, accessFlags := 0, code := some k7c7 }
def k7c8 : Code := { maxStack := 1, maxLocals := 1, code := jdk_42_method_152_code, exceptionTable := #[], attributes := #[] }
def k7m8 : Method := { name := "coder", desc := "()B", sig := { parameters := [], returnType := some .byte }, accessFlags := 0, code := some k7c8 }
def k7c9 : Code := { maxStack := 1, maxLocals := 1, code := jdk_42_method_154_code, exceptionTable := #[], attributes := #[] }
def k7m9 : Method := { name := "isLatin1", desc := "()Z", sig := { parameters := [], returnType := some .boolean }, accessFlags := 0, code := some k7c9 }
def k7c10 : Code := { maxStack := 3, maxLocals := 2, code := jdk_42_method_155_code, exceptionTable := #[], attributes := #[] }
def k7m10 : Method := { name := "checkIndex", desc := "(II)V", sig := { parameters := [.int, .int], returnType := none }, accessFlags := 8, code := some k7c10 }
/-- java/lang/String -/
def k7 : Class := { plain "java/lang/String" (some 0) with
  accessFlags := 49
  interfaces := #[2, 3, 4, 5, 6]
  cf := some (fileOf pool7 10 #[.nestMembers #[1103]] #[{ accessFlags := 1, nameIndex := 5, descriptorIndex := 6, attributes := #[] }, { accessFlags := 1, nameIndex := 5, descriptorIndex := 1010, attributes := #[] }, { accessFlags := 1, nameIndex := 5, descriptorIndex := 1233, attributes := #[] }, { accessFlags := 1, nameIndex := 507, descriptorIndex := 334, attributes := #[] }, { accessFlags := 1, nameIndex := 497, descriptorIndex := 427, attributes := #[] }, { accessFlags := 0, nameIndex := 532, descriptorIndex := 821, attributes := #[] }, { accessFlags := 2, nameIndex := 5, descriptorIndex := 29, attributes := #[] }, { accessFlags := 0, nameIndex := 5, descriptorIndex := 491, attributes := #[] }, { accessFlags := 0, nameIndex := 17, descriptorIndex := 337, attributes := #[] }, { accessFlags := 0, nameIndex := 494, descriptorIndex := 142, attributes := #[] }, { accessFlags := 8, nameIndex := 501, descriptorIndex := 391, attributes := #[] }] 49 2 #[1106, 1108, 575, 1110, 1112] #[{ accessFlags := 18, nameIndex := 13, descriptorIndex := 14, attributes := #[] }, { accessFlags := 18, nameIndex := 17, descriptorIndex := 18, attributes := #[] }, { accessFlags := 2, nameIndex := 21, descriptorIndex := 22, attributes := #[] }, { accessFlags := 2, nameIndex := 25, descriptorIndex := 26, attributes := #[] }, { accessFlags := 26, nameIndex := 1116, descriptorIndex := 1117, attributes := #[] }, { accessFlags := 24, nameIndex := 40, descriptorIndex := 26, attributes := #[] }, { accessFlags := 26, nameIndex := 1101, descriptorIndex := 1102, attributes := #[] }, { accessFlags := 26, nameIndex := 1121, descriptorIndex := 1122, attributes := #[] }, { accessFlags := 25, nameIndex := 599, descriptorIndex := 600, attributes := #[] }, { accessFlags := 24, nameIndex := 1125, descriptorIndex := 18, attributes := #[] }, { accessFlags := 24, nameIndex := 1127, descriptorIndex := 18, attributes := #[] }])
  fields := #[{ name := "value", type := (.array .byte), accessFlags := 18, slot := 0, constantValue := 0 }, { name := "coder", type := .byte, accessFlags := 18, slot := 1, constantValue := 0 }, { name := "hash", type := .int, accessFlags := 2, slot := 2, constantValue := 0 }, { name := "hashIsZero", type := .boolean, accessFlags := 2, slot := 3, constantValue := 0 }, { name := "serialVersionUID", type := .long, accessFlags := 26, slot := 0, constantValue := 0 }, { name := "COMPACT_STRINGS", type := .boolean, accessFlags := 24, slot := 1, constantValue := 0 }, { name := "serialPersistentFields", type := (.array (.object "java/io/ObjectStreamField")), accessFlags := 26, slot := 2, constantValue := 0 }, { name := "REPL", type := .char, accessFlags := 26, slot := 3, constantValue := 0 }, { name := "CASE_INSENSITIVE_ORDER", type := (.object "java/util/Comparator"), accessFlags := 25, slot := 4, constantValue := 0 }, { name := "LATIN1", type := .byte, accessFlags := 24, slot := 5, constantValue := 0 }, { name := "UTF16", type := .byte, accessFlags := 24, slot := 6, constantValue := 0 }]
  methods := #[k7m0, k7m1, k7m2, k7m3, k7m4, k7m5, k7m6, k7m7, k7m8, k7m9, k7m10]
  instanceTypes := #[(.array .byte), .byte, .int, .boolean]
  staticTypes := #[.long, .boolean, (.array (.object "java/io/ObjectStreamField")), .char, (.object "java/util/Comparator"), .byte, .byte]
  resolved := Array.replicate 1451 none
  statics := some 0 }

def pool8 : Array CpInfo := pool [(6, .class_ 8), (1, u "java/lang/Object"), (0, u "<init>"), (0, u "()V"), (1, .class_ 14), (1, u "java/lang/StringUTF16"), (31, u "$assertionsDisabled"), (0, u "Z"), (13, u "HI_BYTE_SHIFT"), (0, u "I"), (2, u "LO_BYTE_SHIFT"), (49, .methodref 12 116), (0, .nameAndType 117 118), (0, u "compress"), (0, u "([CI[BII)I"), (3, u "([CII)[B"), (138, u "coderFromArrayLen"), (0, u "([BI)B"), (106, .class_ 371), (1, u "java/lang/StringUTF16$LinesSpliterator"), (58, u "MAX_LENGTH"), (196, .class_ 628), (0, u "java/lang/StringUTF16$CodePointsSpliterator"), (0, .class_ 630), (0, u "java/lang/StringUTF16$CharsSpliterator")] 4

def k8m0 : Method := { name := "<init>", desc := "()V", sig := { parameters := [], returnType := none }, accessFlags := 0, code := none }
def k8c1 : Code := { maxStack := 2, maxLocals := 2, code := jdk_52_method_15_code, exceptionTable := #[], attributes := #[] }
def k8m1 : Method := { name := "coderFromArrayLen", desc := "([BI)B", sig := { parameters := [(.array .byte), .int], returnType := some .byte }, accessFlags := 8, code := some k8c1 }
def k8c2 : Code := { maxStack := 5, maxLocals := 6, code := jdk_52_method_16_code, exceptionTable := #[], attributes := #[] }
def k8m2 : Method := { name := "compress", desc := "([CII)[B", sig := { parameters := [(.array .char), .int, .int], returnType := some (.array .byte) }, accessFlags := 9, code := some k8c2 }
def k8c3 : Code := { maxStack := 3, maxLocals := 7, code := jdk_52_method_21_code, exceptionTable := #[], attributes := #[] }
def k8m3 : Method := { name := "compress", desc := "([CI[BII)I", sig := { parameters := [(.array .char), .int, (.array .byte), .int, .int], returnType := some .int }, accessFlags := 9, code := some k8c3 }
/-- java/lang/StringUTF16 -/
def k8 : Class := { plain "java/lang/StringUTF16" (some 0) with
  accessFlags := 48
  interfaces := #[]
  cf := some (fileOf pool8 12 #[.nestMembers #[627, 629, 369]] #[{ accessFlags := 0, nameIndex := 9, descriptorIndex := 10, attributes := #[] }, { accessFlags := 8, nameIndex := 261, descriptorIndex := 262, attributes := #[] }, { accessFlags := 9, nameIndex := 117, descriptorIndex := 122, attributes := #[] }, { accessFlags := 9, nameIndex := 117, descriptorIndex := 118, attributes := #[] }] 48 6 #[] #[{ accessFlags := 26, nameIndex := 61, descriptorIndex := 62, attributes := #[] }, { accessFlags := 26, nameIndex := 65, descriptorIndex := 62, attributes := #[] }, { accessFlags := 24, nameIndex := 430, descriptorIndex := 62, attributes := #[] }, { accessFlags := 4120, nameIndex := 46, descriptorIndex := 47, attributes := #[] }])
  fields := #[{ name := "HI_BYTE_SHIFT", type := .int, accessFlags := 26, slot := 0, constantValue := 0 }, { name := "LO_BYTE_SHIFT", type := .int, accessFlags := 26, slot := 1, constantValue := 0 }, { name := "MAX_LENGTH", type := .int, accessFlags := 24, slot := 2, constantValue := 0 }, { name := "$assertionsDisabled", type := .boolean, accessFlags := 4120, slot := 3, constantValue := 0 }]
  methods := #[k8m0, k8m1, k8m2, k8m3]
  instanceTypes := #[]
  staticTypes := #[.int, .int, .int, .boolean]
  resolved := Array.replicate 635 none
  statics := none }

def pool9 : Array CpInfo := pool [(1, .methodref 2 3), (0, .class_ 4), (0, .nameAndType 5 6), (0, u "java/lang/Object"), (0, u "<init>"), (0, u "()V"), (0, .fieldref 8 9), (0, .class_ 10), (0, .nameAndType 11 12), (0, u "com/example/strict_tariff/stricttariff/pricing/RefusedReading"), (0, u "line"), (0, u "J"), (0, .fieldref 8 14), (0, .nameAndType 15 16), (0, u "reason"), (0, u "Ljava/lang/String;"), (0, .class_ 18), (0, u "java/lang/StringBuilder"), (0, .methodref 17 3), (0, .string 21), (0, u "line "), (0, .methodref 17 23), (0, .nameAndType 24 25), (0, u "append"), (0, u "(Ljava/lang/String;)Ljava/lang/StringBuilder;"), (0, .methodref 17 27), (0, .nameAndType 24 28), (0, u "(J)Ljava/lang/StringBuilder;"), (0, .string 30), (0, u ": "), (0, .methodref 17 32), (0, .nameAndType 33 34), (0, u "toString"), (0, u "()Ljava/lang/String;"), (0, u "(JLjava/lang/String;)V"), (3, u "message")] 2

def k9c0 : Code := { maxStack := 3, maxLocals := 4, code := prog_14_method_1_code, exceptionTable := #[], attributes := #[] }
def k9m0 : Method := { name := "<init>", desc := "(JLjava/lang/String;)V", sig := { parameters := [.long, (.object "java/lang/String")], returnType := none }, accessFlags := 0, code := some k9c0 }
def k9c1 : Code := { maxStack := 3, maxLocals := 1, code := prog_14_method_4_code, exceptionTable := #[], attributes := #[] }
def k9m1 : Method := { name := "message", desc := "()Ljava/lang/String;", sig := { parameters := [], returnType := some (.object "java/lang/String") }, accessFlags := 1, code := some k9c1 }
/-- com/example/strict_tariff/stricttariff/pricing/RefusedReading -/
def k9 : Class := { plain "com/example/strict_tariff/stricttariff/pricing/RefusedReading" (some 0) with
  accessFlags := 33
  interfaces := #[]
  cf := some (fileOf pool9 8 #[] #[{ accessFlags := 0, nameIndex := 5, descriptorIndex := 35, attributes := #[] }, { accessFlags := 1, nameIndex := 39, descriptorIndex := 34, attributes := #[] }] 33 2 #[] #[{ accessFlags := 18, nameIndex := 11, descriptorIndex := 12, attributes := #[] }, { accessFlags := 18, nameIndex := 15, descriptorIndex := 16, attributes := #[] }])
  fields := #[{ name := "line", type := .long, accessFlags := 18, slot := 0, constantValue := 0 }, { name := "reason", type := (.object "java/lang/String"), accessFlags := 18, slot := 1, constantValue := 0 }]
  methods := #[k9m0, k9m1]
  instanceTypes := #[.long, (.object "java/lang/String")]
  staticTypes := #[]
  resolved := Array.replicate 42 none
  statics := none }

def pool10 : Array CpInfo := pool [(1, .class_ 2), (0, u "java/lang/Appendable"), (0, .class_ 4), (0, u "java/lang/Object")] 9

/-- java/lang/Appendable -/
def k10 : Class := { plain "java/lang/Appendable" (some 0) with
  accessFlags := 1537
  interfaces := #[]
  cf := some (fileOf pool10 1 #[] #[] 1537 3 #[] #[])
  fields := #[]
  methods := #[]
  instanceTypes := #[]
  staticTypes := #[]
  resolved := Array.replicate 14 none
  statics := none }

def pool11 : Array CpInfo := pool [(1, .class_ 2), (0, u "java/lang/String"), (0, .methodref 4 5), (0, .class_ 6), (0, .nameAndType 7 8), (0, u "java/lang/Object"), (0, u "<init>"), (0, u "()V"), (1, .class_ 12), (1, u "java/lang/AbstractStringBuilder"), (0, u "EMPTYVALUE"), (0, u "[B"), (0, .fieldref 10 16), (0, .nameAndType 17 14), (0, u "value"), (0, .fieldref 1 19), (0, .nameAndType 20 21), (0, u "COMPACT_STRINGS"), (0, u "Z"), (0, .fieldref 10 23), (0, .nameAndType 24 25), (0, u "coder"), (0, u "B"), (6, .methodref 1 33), (0, .nameAndType 34 35), (0, u "length"), (0, u "()I"), (3, .integer 2147483647), (0, .methodref 1 41), (0, .nameAndType 24 42), (0, u "()B"), (2, u "append"), (0, u "(Ljava/lang/String;)Ljava/lang/AbstractStringBuilder;"), (1, .class_ 49), (0, u "java/lang/CharSequence"), (19, u "(Ljava/lang/String;)V"), (5, u "maybeLatin1"), (3, .fieldref 10 80), (0, .nameAndType 81 82), (0, u "count"), (0, u "I"), (0, .methodref 10 84), (0, .nameAndType 85 86), (0, u "isLatin1"), (0, u "()Z"), (13, .methodref 10 101), (0, .nameAndType 102 103), (0, u "ensureCapacityInternal"), (0, u "(I)V"), (0, .methodref 10 105), (0, .nameAndType 106 107), (0, u "newCapacity"), (0, u "(I)I"), (0, .methodref 109 110), (0, .class_ 111), (0, .nameAndType 112 113), (0, u "java/util/Arrays"), (0, u "copyOf"), (0, u "([BI)[B"), (0, .methodref 115 116), (0, .class_ 117), (0, .nameAndType 118 119), (0, u "jdk/internal/util/ArraysSupport"), (0, u "newLength"), (0, u "(III)I"), (68, u "getChars"), (19, .methodref 10 209), (0, .nameAndType 210 211), (0, u "putStringAt"), (0, u "(ILjava/lang/String;)V"), (5, u "inflateIfNeededFor"), (2, .nameAndType 221 222), (0, u "getBytes"), (0, u "([BIB)V"), (24, u "stringSize"), (6, .methodref 255 256), (0, .class_ 257), (0, .nameAndType 247 258), (0, u "java/lang/Long"), (0, u "(J)I"), (0, .methodref 255 260), (0, .nameAndType 188 261), (0, u "(JI[B)I"), (135, .methodref 10 398), (0, .nameAndType 217 69), (0, .methodref 1 220), (3, u "()[B"), (40, .class_ 445), (0, u "java/lang/Appendable"), (67, u "(J)Ljava/lang/AbstractStringBuilder;"), (38, u "getValue")] 56

def k11m0 : Method := { name := "<init>", desc := "()V", sig := { parameters := [], returnType := none }, accessFlags := 0, code := none }
def k11c1 : Code := { maxStack := 2, maxLocals := 2, code := jdk_68_method_2_code, exceptionTable := #[], attributes := #[] }
def k11m1 : Method := { name := "<init>", desc := "(I)V", sig := { parameters := [.int], returnType := none }, accessFlags := 0, code := some k11c1 }
def k11c2 : Code := { maxStack := 1, maxLocals := 1, code := jdk_68_method_6_code, exceptionTable := #[], attributes := #[] }
def k11m2 : Method := { name := "length", desc := "()I", sig := { parameters := [], returnType := some .int }, accessFlags := 1, code := some k11c2 }
def k11c3 : Code := { maxStack := 4, maxLocals := 3, code := jdk_68_method_9_code, exceptionTable := #[], attributes := #[] }
def k11m3 : Method := { name := "ensureCapacityInternal", desc := "(I)V", sig := { parameters := [.int], returnType := none }, accessFlags := 2, code := some k11c3 }
def k11c4 : Code := { maxStack := 5, maxLocals := 6, code := jdk_68_method_10_code, exceptionTable := #[], attributes := #[] }
def k11m4 : Method := { name := "newCapacity", desc := "(I)I", sig := { parameters := [.int], returnType := some .int }, accessFlags := 2, code := some k11c4 }
def k11c5 : Code := { maxStack := 3, maxLocals := 3, code := jdk_68_method_22_code, exceptionTable := #[], attributes := #[] }
def k11m5 : Method := { name := "append", desc := "(Ljava/lang/String;)Ljava/lang/AbstractStringBuilder;", sig := { parameters := [(.object "java/lang/String")], returnType := some (.object "java/lang/AbstractStringBuilder") }, accessFlags := 1, code := some k11c5 }
def k11c6 : Code := { maxStack := 5, maxLocals := 5, code := jdk_68_method_33_code, exceptionTable := #[], attributes := #[] }
def k11m6 : Method := { name := "append", desc := "(J)Ljava/lang/AbstractStringBuilder;", sig := { parameters := [.long], returnType := some (.object "java/lang/AbstractStringBuilder") }, accessFlags := 1, code := some k11c6 }
def k11c7 : Code := { maxStack := 1, maxLocals := 1, code := jdk_68_method_64_code, exceptionTable := #[], attributes := #[] }
def k11m7 : Method := { name := "getValue", desc := "()[B", sig := { parameters := [], returnType := some (.array .byte) }, accessFlags := 16, code := some k11c7 }
def k11c8 : Code := { maxStack := 1, maxLocals := 1, code := jdk_68_method_68_code, exceptionTable := #[], attributes := #[] }
def k11m8 : Method := { name := "isLatin1", desc := "()Z", sig := { parameters := [], returnType := some .boolean }, accessFlags := 16, code := some k11c8 }
def k11c9 : Code := { maxStack := 2, maxLocals := 2, code := jdk_68_method_71_code, exceptionTable := #[], attributes := #[] }
def k11m9 : Method := { name := "inflateIfNeededFor", desc := "(Ljava/lang/String;)V", sig := { parameters := [(.object "java/lang/String")], returnType := none }, accessFlags := 2, code := some k11c9 }
def k11c10 : Code := { maxStack := 4, maxLocals := 3, code := jdk_68_method_73_code, exceptionTable := #[], attributes := #[] }
def k11m10 : Method := { name := "putStringAt", desc := "(ILjava/lang/String;)V", sig := { parameters := [.int, (.object "java/lang/String")], returnType := none }, accessFlags := 2, code := some k11c10 }
/-- java/lang/AbstractStringBuilder -/
def k11 : Class := { plain "java/lang/AbstractStringBuilder" (some 0) with
  accessFlags := 1056
  interfaces := #[10, 4]
  cf := some (fileOf pool11 10 #[] #[{ accessFlags := 0, nameIndex := 7, descriptorIndex := 8, attributes := #[] }, { accessFlags := 0, nameIndex := 7, descriptorIndex := 103, attributes := #[] }, { accessFlags := 1, nameIndex := 34, descriptorIndex := 35, attributes := #[] }, { accessFlags := 2, nameIndex := 102, descriptorIndex := 103, attributes := #[] }, { accessFlags := 2, nameIndex := 106, descriptorIndex := 107, attributes := #[] }, { accessFlags := 1, nameIndex := 45, descriptorIndex := 46, attributes := #[] }, { accessFlags := 1, nameIndex := 45, descriptorIndex := 513, attributes := #[] }, { accessFlags := 16, nameIndex := 552, descriptorIndex := 403, attributes := #[] }, { accessFlags := 16, nameIndex := 85, descriptorIndex := 86, attributes := #[] }, { accessFlags := 2, nameIndex := 217, descriptorIndex := 69, attributes := #[] }, { accessFlags := 2, nameIndex := 210, descriptorIndex := 211, attributes := #[] }] 1056 4 #[444, 48] #[{ accessFlags := 0, nameIndex := 17, descriptorIndex := 14, attributes := #[] }, { accessFlags := 0, nameIndex := 24, descriptorIndex := 25, attributes := #[] }, { accessFlags := 0, nameIndex := 75, descriptorIndex := 21, attributes := #[] }, { accessFlags := 0, nameIndex := 81, descriptorIndex := 82, attributes := #[] }, { accessFlags := 26, nameIndex := 13, descriptorIndex := 14, attributes := #[] }])
  fields := #[{ name := "value", type := (.array .byte), accessFlags := 0, slot := 0, constantValue := 0 }, { name := "coder", type := .byte, accessFlags := 0, slot := 1, constantValue := 0 }, { name := "maybeLatin1", type := .boolean, accessFlags := 0, slot := 2, constantValue := 0 }, { name := "count", type := .int, accessFlags := 0, slot := 3, constantValue := 0 }, { name := "EMPTYVALUE", type := (.array .byte), accessFlags := 26, slot := 0, constantValue := 0 }]
  methods := #[k11m0, k11m1, k11m2, k11m3, k11m4, k11m5, k11m6, k11m7, k11m8, k11m9, k11m10]
  instanceTypes := #[(.array .byte), .byte, .boolean, .int]
  staticTypes := #[(.array .byte)]
  resolved := Array.replicate 609 none
  statics := none }

def pool12 : Array CpInfo := pool [(1, .methodref 2 3), (0, .class_ 4), (0, .nameAndType 5 6), (0, u "java/lang/AbstractStringBuilder"), (0, u "<init>"), (0, u "(I)V"), (11, .class_ 20), (1, u "java/lang/String"), (3, .class_ 26), (1, u "java/lang/StringBuilder"), (0, u "append"), (0, u "(Ljava/lang/String;)Ljava/lang/StringBuilder;"), (0, .methodref 2 30), (0, .nameAndType 27 31), (0, u "(Ljava/lang/String;)Ljava/lang/AbstractStringBuilder;"), (24, .methodref 2 57), (0, .nameAndType 27 58), (0, u "(J)Ljava/lang/AbstractStringBuilder;"), (78, .methodref 18 138), (0, .nameAndType 5 139), (0, u "(Ljava/lang/StringBuilder;)V"), (5, u "()V"), (10, u "()I"), (124, u "(J)Ljava/lang/StringBuilder;"), (61, .methodref 2 344), (0, .nameAndType 345 156), (0, u "length"), (3, .class_ 350), (0, u "java/lang/Appendable"), (0, .class_ 352), (0, u "java/io/Serializable"), (0, .class_ 354), (0, u "java/lang/Comparable"), (0, .class_ 356), (0, u "java/lang/CharSequence"), (0, u "serialVersionUID"), (0, u "J"), (40, u "toString"), (0, u "()Ljava/lang/String;")] 21

def k12c0 : Code := { maxStack := 2, maxLocals := 1, code := jdk_67_method_1_code, exceptionTable := #[], attributes := #[] }
def k12m0 : Method := { name := "<init>", desc := "()V", sig := { parameters := [], returnType := none }, accessFlags := 1, code := some k12c0 }
def k12c1 : Code := { maxStack := 2, maxLocals := 2, code := jdk_67_method_7_code, exceptionTable := #[], attributes := #[] }
def k12m1 : Method := { name := "append", desc := "(Ljava/lang/String;)Ljava/lang/StringBuilder;", sig := { parameters := [(.object "java/lang/String")], returnType := some (.object "java/lang/StringBuilder") }, accessFlags := 1, code := some k12c1 }
def k12c2 : Code := { maxStack := 3, maxLocals := 3, code := jdk_67_method_16_code, exceptionTable := #[], attributes := #[] }
def k12m2 : Method := { name := "append", desc := "(J)Ljava/lang/StringBuilder;", sig := { parameters := [.long], returnType := some (.object "java/lang/StringBuilder") }, accessFlags := 1, code := some k12c2 }
def k12c3 : Code := { maxStack := 3, maxLocals := 1, code := jdk_67_method_42_code, exceptionTable := #[], attributes := #[] }
def k12m3 : Method := { name := "toString", desc := "()Ljava/lang/String;", sig := { parameters := [], returnType := some (.object "java/lang/String") }, accessFlags := 1, code := some k12c3 }
def k12c4 : Code := { maxStack := 1, maxLocals := 1, code := jdk_67_method_93_code, exceptionTable := #[], attributes := #[] }
def k12m4 : Method := { name := "length", desc := "()I", sig := { parameters := [], returnType := some .int }, accessFlags := 4161, code := some k12c4 }
/-- java/lang/StringBuilder -/
def k12 : Class := { plain "java/lang/StringBuilder" (some 11) with
  accessFlags := 49
  interfaces := #[10, 2, 3, 4]
  cf := some (fileOf pool12 24 #[] #[{ accessFlags := 1, nameIndex := 5, descriptorIndex := 145, attributes := #[] }, { accessFlags := 1, nameIndex := 27, descriptorIndex := 28, attributes := #[] }, { accessFlags := 1, nameIndex := 27, descriptorIndex := 281, attributes := #[] }, { accessFlags := 1, nameIndex := 399, descriptorIndex := 400, attributes := #[] }, { accessFlags := 4161, nameIndex := 345, descriptorIndex := 156, attributes := #[] }] 49 2 #[349, 351, 353, 355] #[{ accessFlags := 24, nameIndex := 357, descriptorIndex := 358, attributes := #[] }])
  fields := #[{ name := "serialVersionUID", type := .long, accessFlags := 24, slot := 0, constantValue := 0 }]
  methods := #[k12m0, k12m1, k12m2, k12m3, k12m4]
  instanceTypes := #[(.array .byte), .byte, .boolean, .int]
  staticTypes := #[.long]
  resolved := Array.replicate 422 none
  statics := none }

def pool13 : Array CpInfo := pool [(2, .class_ 4), (1, u "java/lang/Object"), (0, u "<init>"), (0, u "()V"), (1, .class_ 10), (1, u "java/lang/System"), (0, u "allowSecurityManager"), (0, u "I"), (16, u "cons"), (0, u "Ljava/io/Console;"), (77, .class_ 110), (1, u "java/lang/System$CallersHolder"), (43, u "initialErrStream"), (0, u "Ljava/io/PrintStream;"), (19, u "security"), (0, u "Ljava/lang/SecurityManager;"), (31, .class_ 209), (0, u "java/lang/System$1"), (7, u "props"), (0, u "Ljava/util/Properties;"), (2, u "lineSeparator"), (0, u "Ljava/lang/String;"), (96, .class_ 321), (1, u "java/lang/System$LoggerFinder"), (5, .class_ 328), (0, u "java/lang/System$Logger"), (67, u "err"), (2, u "out"), (91, u "notSupportedJnuEncoding"), (15, u "in"), (17, u "initialIn"), (0, u "Ljava/io/InputStream;"), (35, u "bootLayer"), (0, u "Ljava/lang/ModuleLayer;"), (99, .class_ 664), (0, u "java/lang/System$2"), (9, u "NEVER"), (2, u "MAYBE"), (49, u "arraycopy"), (0, u "(Ljava/lang/Object;ILjava/lang/Object;II)V"), (72, .class_ 802), (0, u "java/lang/System$Logger$Level")] 31

def k13m0 : Method := { name := "<init>", desc := "()V", sig := { parameters := [], returnType := none }, accessFlags := 2, code := none }
def k13m1 : Method := { name := "arraycopy", desc := "(Ljava/lang/Object;ILjava/lang/Object;II)V", sig := { parameters := [(.object "java/lang/Object"), .int, (.object "java/lang/Object"), .int, .int], returnType := none }, accessFlags := 265, code := none }
/-- java/lang/System -/
def k13 : Class := { plain "java/lang/System" (some 0) with
  accessFlags := 49
  interfaces := #[]
  cf := some (fileOf pool13 8 #[.nestMembers #[319, 327, 801, 108, 663, 208]] #[{ accessFlags := 2, nameIndex := 5, descriptorIndex := 6, attributes := #[] }, { accessFlags := 265, nameIndex := 727, descriptorIndex := 728, attributes := #[] }] 49 2 #[] #[{ accessFlags := 25, nameIndex := 507, descriptorIndex := 526, attributes := #[] }, { accessFlags := 25, nameIndex := 399, descriptorIndex := 155, attributes := #[] }, { accessFlags := 25, nameIndex := 396, descriptorIndex := 155, attributes := #[] }, { accessFlags := 10, nameIndex := 525, descriptorIndex := 526, attributes := #[] }, { accessFlags := 26, nameIndex := 674, descriptorIndex := 12, attributes := #[] }, { accessFlags := 26, nameIndex := 677, descriptorIndex := 12, attributes := #[] }, { accessFlags := 10, nameIndex := 11, descriptorIndex := 12, attributes := #[] }, { accessFlags := 74, nameIndex := 175, descriptorIndex := 176, attributes := #[] }, { accessFlags := 10, nameIndex := 491, descriptorIndex := 222, attributes := #[] }, { accessFlags := 74, nameIndex := 29, descriptorIndex := 30, attributes := #[] }, { accessFlags := 74, nameIndex := 154, descriptorIndex := 155, attributes := #[] }, { accessFlags := 10, nameIndex := 217, descriptorIndex := 218, attributes := #[] }, { accessFlags := 10, nameIndex := 221, descriptorIndex := 222, attributes := #[] }, { accessFlags := 8, nameIndex := 562, descriptorIndex := 563, attributes := #[] }])
  fields := #[{ name := "in", type := (.object "java/io/InputStream"), accessFlags := 25, slot := 0, constantValue := 0 }, { name := "out", type := (.object "java/io/PrintStream"), accessFlags := 25, slot := 1, constantValue := 0 }, { name := "err", type := (.object "java/io/PrintStream"), accessFlags := 25, slot := 2, constantValue := 0 }, { name := "initialIn", type := (.object "java/io/InputStream"), accessFlags := 10, slot := 3, constantValue := 0 }, { name := "NEVER", type := .int, accessFlags := 26, slot := 4, constantValue := 0 }, { name := "MAYBE", type := .int, accessFlags := 26, slot := 5, constantValue := 0 }, { name := "allowSecurityManager", type := .int, accessFlags := 10, slot := 6, constantValue := 0 }, { name := "security", type := (.object "java/lang/SecurityManager"), accessFlags := 74, slot := 7, constantValue := 0 }, { name := "notSupportedJnuEncoding", type := (.object "java/lang/String"), accessFlags := 10, slot := 8, constantValue := 0 }, { name := "cons", type := (.object "java/io/Console"), accessFlags := 74, slot := 9, constantValue := 0 }, { name := "initialErrStream", type := (.object "java/io/PrintStream"), accessFlags := 74, slot := 10, constantValue := 0 }, { name := "props", type := (.object "java/util/Properties"), accessFlags := 10, slot := 11, constantValue := 0 }, { name := "lineSeparator", type := (.object "java/lang/String"), accessFlags := 10, slot := 12, constantValue := 0 }, { name := "bootLayer", type := (.object "java/lang/ModuleLayer"), accessFlags := 8, slot := 13, constantValue := 0 }]
  methods := #[k13m0, k13m1]
  instanceTypes := #[]
  staticTypes := #[(.object "java/io/InputStream"), (.object "java/io/PrintStream"), (.object "java/io/PrintStream"), (.object "java/io/InputStream"), .int, .int, .int, (.object "java/lang/SecurityManager"), (.object "java/lang/String"), (.object "java/io/Console"), (.object "java/io/PrintStream"), (.object "java/util/Properties"), (.object "java/lang/String"), (.object "java/lang/ModuleLayer")]
  resolved := Array.replicate 834 none
  statics := none }

def pool14 : Array CpInfo := pool [(2, .class_ 4), (1, u "java/lang/Object"), (0, u "<init>"), (0, u "()V"), (1, .class_ 10), (1, u "java/lang/Number"), (2, .class_ 14), (0, u "java/io/Serializable"), (0, u "serialVersionUID"), (0, u "J")] 20

def k14m0 : Method := { name := "<init>", desc := "()V", sig := { parameters := [], returnType := none }, accessFlags := 1, code := none }
/-- java/lang/Number -/
def k14 : Class := { plain "java/lang/Number" (some 0) with
  accessFlags := 1057
  interfaces := #[2]
  cf := some (fileOf pool14 8 #[] #[{ accessFlags := 1, nameIndex := 5, descriptorIndex := 6, attributes := #[] }] 1057 2 #[13] #[{ accessFlags := 26, nameIndex := 15, descriptorIndex := 16, attributes := #[] }])
  fields := #[{ name := "serialVersionUID", type := .long, accessFlags := 26, slot := 0, constantValue := 0 }]
  methods := #[k14m0]
  instanceTypes := #[]
  staticTypes := #[.long]
  resolved := Array.replicate 37 none
  statics := none }

def pool15 : Array CpInfo := pool [(1, .class_ 2), (0, u "java/lang/Long"), (15, .class_ 20), (1, u "java/lang/Integer"), (32, .long 10), (47, u "(J)I"), (18, u "stringSize"), (2, u "getChars"), (0, u "(JI[B)I"), (4, .long 18446744071562067968), (1, .long 100), (1, .fieldref 18 134), (0, .nameAndType 135 136), (0, u "DigitOnes"), (0, u "[B"), (0, .fieldref 18 138), (0, .nameAndType 139 136), (0, u "DigitTens"), (0, .long 18446744073709551606), (94, .class_ 237), (1, u "java/lang/Long$LongCache"), (33, .class_ 272), (0, u "java/lang/Number"), (2, u "value"), (0, u "J"), (84, u "TYPE"), (0, u "Ljava/lang/Class;"), (0, .class_ 364), (0, u "java/lang/Comparable"), (0, .class_ 366), (0, u "java/lang/constant/Constable"), (0, .class_ 368), (0, u "java/lang/constant/ConstantDesc"), (0, u "MIN_VALUE"), (1, u "MAX_VALUE"), (4, u "SIZE"), (0, u "I"), (1, u "BYTES"), (1, u "serialVersionUID")] 142

def k15c0 : Code := { maxStack := 4, maxLocals := 11, code := jdk_35_method_14_code, exceptionTable := #[], attributes := #[] }
def k15m0 : Method := { name := "getChars", desc := "(JI[B)I", sig := { parameters := [.long, .int, (.array .byte)], returnType := some .int }, accessFlags := 8, code := some k15c0 }
def k15c1 : Code := { maxStack := 4, maxLocals := 6, code := jdk_35_method_15_code, exceptionTable := #[], attributes := #[] }
def k15m1 : Method := { name := "stringSize", desc := "(J)I", sig := { parameters := [.long], returnType := some .int }, accessFlags := 8, code := some k15c1 }
/-- java/lang/Long -/
def k15 : Class := { plain "java/lang/Long" (some 14) with
  accessFlags := 49
  interfaces := #[3, 5, 6]
  cf := some (fileOf pool15 1 #[.nestMembers #[235]] #[{ accessFlags := 8, nameIndex := 123, descriptorIndex := 124, attributes := #[] }, { accessFlags := 8, nameIndex := 120, descriptorIndex := 101, attributes := #[] }] 49 271 #[363, 365, 367] #[{ accessFlags := 25, nameIndex := 369, descriptorIndex := 276, attributes := #[] }, { accessFlags := 25, nameIndex := 371, descriptorIndex := 276, attributes := #[] }, { accessFlags := 25, nameIndex := 361, descriptorIndex := 362, attributes := #[] }, { accessFlags := 18, nameIndex := 275, descriptorIndex := 276, attributes := #[] }, { accessFlags := 25, nameIndex := 376, descriptorIndex := 377, attributes := #[] }, { accessFlags := 25, nameIndex := 379, descriptorIndex := 377, attributes := #[] }, { accessFlags := 26, nameIndex := 381, descriptorIndex := 276, attributes := #[] }])
  fields := #[{ name := "MIN_VALUE", type := .long, accessFlags := 25, slot := 0, constantValue := 0 }, { name := "MAX_VALUE", type := .long, accessFlags := 25, slot := 1, constantValue := 0 }, { name := "TYPE", type := (.object "java/lang/Class"), accessFlags := 25, slot := 2, constantValue := 0 }, { name := "value", type := .long, accessFlags := 18, slot := 0, constantValue := 0 }, { name := "SIZE", type := .int, accessFlags := 25, slot := 3, constantValue := 0 }, { name := "BYTES", type := .int, accessFlags := 25, slot := 4, constantValue := 0 }, { name := "serialVersionUID", type := .long, accessFlags := 26, slot := 5, constantValue := 0 }]
  methods := #[k15m0, k15m1]
  instanceTypes := #[.long]
  staticTypes := #[.long, .long, (.object "java/lang/Class"), .int, .int, .long]
  resolved := Array.replicate 524 none
  statics := none }

def pool16 : Array CpInfo := pool [(1, .class_ 2), (0, u "java/lang/Integer"), (16, u "digits"), (0, u "[C"), (64, u "DigitOnes"), (0, u "[B"), (2, u "DigitTens"), (99, .class_ 190), (0, u "java/lang/Integer$IntegerCache"), (3, u "I"), (8, .class_ 204), (0, u "java/lang/Number"), (2, u "value"), (94, u "TYPE"), (0, u "Ljava/lang/Class;"), (0, .class_ 305), (0, u "java/lang/Comparable"), (0, .class_ 307), (0, u "java/lang/constant/Constable"), (0, .class_ 309), (0, u "java/lang/constant/ConstantDesc"), (0, u "MIN_VALUE"), (1, u "MAX_VALUE"), (3, u "SIZE"), (1, u "BYTES"), (1, u "serialVersionUID"), (0, u "J")] 131

/-- java/lang/Integer -/
def k16 : Class := { plain "java/lang/Integer" (some 14) with
  accessFlags := 49
  interfaces := #[3, 5, 6]
  cf := some (fileOf pool16 1 #[.nestMembers #[189]] #[] 49 203 #[304, 306, 308] #[{ accessFlags := 25, nameIndex := 310, descriptorIndex := 194, attributes := #[] }, { accessFlags := 25, nameIndex := 312, descriptorIndex := 194, attributes := #[] }, { accessFlags := 25, nameIndex := 302, descriptorIndex := 303, attributes := #[] }, { accessFlags := 24, nameIndex := 19, descriptorIndex := 20, attributes := #[] }, { accessFlags := 24, nameIndex := 89, descriptorIndex := 86, attributes := #[] }, { accessFlags := 24, nameIndex := 85, descriptorIndex := 86, attributes := #[] }, { accessFlags := 18, nameIndex := 207, descriptorIndex := 194, attributes := #[] }, { accessFlags := 25, nameIndex := 316, descriptorIndex := 194, attributes := #[] }, { accessFlags := 25, nameIndex := 318, descriptorIndex := 194, attributes := #[] }, { accessFlags := 26, nameIndex := 320, descriptorIndex := 321, attributes := #[] }])
  fields := #[{ name := "MIN_VALUE", type := .int, accessFlags := 25, slot := 0, constantValue := 0 }, { name := "MAX_VALUE", type := .int, accessFlags := 25, slot := 1, constantValue := 0 }, { name := "TYPE", type := (.object "java/lang/Class"), accessFlags := 25, slot := 2, constantValue := 0 }, { name := "digits", type := (.array .char), accessFlags := 24, slot := 3, constantValue := 0 }, { name := "DigitTens", type := (.array .byte), accessFlags := 24, slot := 4, constantValue := 0 }, { name := "DigitOnes", type := (.array .byte), accessFlags := 24, slot := 5, constantValue := 0 }, { name := "value", type := .int, accessFlags := 18, slot := 0, constantValue := 0 }, { name := "SIZE", type := .int, accessFlags := 25, slot := 6, constantValue := 0 }, { name := "BYTES", type := .int, accessFlags := 25, slot := 7, constantValue := 0 }, { name := "serialVersionUID", type := .long, accessFlags := 26, slot := 8, constantValue := 0 }]
  methods := #[]
  instanceTypes := #[.int]
  staticTypes := #[.int, .int, (.object "java/lang/Class"), (.array .char), (.array .byte), (.array .byte), .int, .int, .long]
  resolved := Array.replicate 453 none
  statics := some 1 }

def pool17 : Array CpInfo := pool [(2, .class_ 4), (1, u "java/lang/Object"), (0, u "<init>"), (0, u "()V"), (7, .class_ 16), (1, u "java/util/Arrays"), (57, .class_ 76), (1, u "java/util/Arrays$NaturalOrder"), (32, u "()Ljava/lang/Object;"), (3, .class_ 115), (1, u "java/util/Arrays$LegacyMergeSort"), (1, u "Z"), (10, .nameAndType 129 109), (0, u "clone"), (9, u "copyOfRange"), (10, .methodref 151 152), (0, .class_ 153), (0, .nameAndType 154 155), (0, u "java/lang/System"), (0, u "arraycopy"), (0, u "(Ljava/lang/Object;ILjava/lang/Object;II)V"), (146, u "copyOf"), (1, .methodref 305 306), (0, .class_ 307), (0, .nameAndType 308 309), (0, u "java/lang/Math"), (0, u "min"), (0, u "(II)I"), (0, .methodref 311 128), (0, .class_ 312), (0, u "[B"), (26, .methodref 14 340), (0, .nameAndType 341 342), (0, u "copyOfRangeByte"), (0, u "([BII)[B"), (0, .methodref 14 344), (0, .nameAndType 345 346), (0, u "checkLength"), (0, u "(II)V"), (28, .class_ 376), (0, u "java/util/Arrays$ArrayList"), (68, u "$assertionsDisabled"), (269, u "MIN_ARRAY_SORT_GRAN"), (0, u "I"), (2, u "INSERTIONSORT_THRESHOLD"), (149, u "([BI)[B"), (105, .class_ 976), (0, u "java/util/Arrays$ArrayItr")] 52

def k17m0 : Method := { name := "<init>", desc := "()V", sig := { parameters := [], returnType := none }, accessFlags := 2, code := none }
def k17c1 : Code := { maxStack := 6, maxLocals := 3, code := jdk_65_method_121_code, exceptionTable := #[], attributes := #[] }
def k17m1 : Method := { name := "copyOf", desc := "([BI)[B", sig := { parameters := [(.array .byte), .int], returnType := some (.array .byte) }, accessFlags := 9, code := some k17c1 }
def k17c2 : Code := { maxStack := 4, maxLocals := 2, code := jdk_65_method_131_code, exceptionTable := #[], attributes := #[] }
def k17m2 : Method := { name := "checkLength", desc := "(II)V", sig := { parameters := [.int, .int], returnType := none }, accessFlags := 10, code := some k17c2 }
def k17c3 : Code := { maxStack := 3, maxLocals := 3, code := jdk_65_method_132_code, exceptionTable := #[], attributes := #[] }
def k17m3 : Method := { name := "copyOfRange", desc := "([BII)[B", sig := { parameters := [(.array .byte), .int, .int], returnType := some (.array .byte) }, accessFlags := 9, code := some k17c3 }
def k17c4 : Code := { maxStack := 6, maxLocals := 5, code := jdk_65_method_133_code, exceptionTable := #[], attributes := #[] }
def k17m4 : Method := { name := "copyOfRangeByte", desc := "([BII)[B", sig := { parameters := [(.array .byte), .int, .int], returnType := some (.array .byte) }, accessFlags := 10, code := some k17c4 }
/-- java/util/Arrays -/
def k17 : Class := { plain "java/util/Arrays" (some 0) with
  accessFlags := 49
  interfaces := #[]
  cf := some (fileOf pool17 14 #[.nestMembers #[975, 375, 113, 74]] #[{ accessFlags := 2, nameIndex := 5, descriptorIndex := 6, attributes := #[] }, { accessFlags := 9, nameIndex := 302, descriptorIndex := 869, attributes := #[] }, { accessFlags := 10, nameIndex := 345, descriptorIndex := 346, attributes := #[] }, { accessFlags := 9, nameIndex := 139, descriptorIndex := 342, attributes := #[] }, { accessFlags := 10, nameIndex := 341, descriptorIndex := 342, attributes := #[] }] 49 2 #[] #[{ accessFlags := 26, nameIndex := 715, descriptorIndex := 716, attributes := #[] }, { accessFlags := 26, nameIndex := 719, descriptorIndex := 716, attributes := #[] }, { accessFlags := 4120, nameIndex := 445, descriptorIndex := 117, attributes := #[] }])
  fields := #[{ name := "MIN_ARRAY_SORT_GRAN", type := .int, accessFlags := 26, slot := 0, constantValue := 0 }, { name := "INSERTIONSORT_THRESHOLD", type := .int, accessFlags := 26, slot := 1, constantValue := 0 }, { name := "$assertionsDisabled", type := .boolean, accessFlags := 4120, slot := 2, constantValue := 0 }]
  methods := #[k17m0, k17m1, k17m2, k17m3, k17m4]
  instanceTypes := #[]
  staticTypes := #[.int, .int, .boolean]
  resolved := Array.replicate 1029 none
  statics := none }

def pool18 : Array CpInfo := pool [(1, .class_ 2), (0, u "java/lang/Math"), (1, .class_ 6), (1, u "java/lang/Object"), (0, u "<init>"), (0, u "()V"), (89, .class_ 100), (1, u "java/lang/Math$RandomNumberGeneratorHolder"), (71, u "negativeZeroFloatBits"), (0, u "J"), (2, u "negativeZeroDoubleBits"), (21, u "max"), (2, u "min"), (43, u "$assertionsDisabled"), (0, u "Z"), (88, u "(II)I"), (2, u "twoToTheDoubleScaleDown"), (0, u "D"), (4, u "twoToTheDoubleScaleUp"), (9, u "E"), (3, u "PI"), (2, u "TAU"), (2, u "DEGREES_TO_RADIANS"), (0, u "RADIANS_TO_DEGREES")] 94

def k18m0 : Method := { name := "<init>", desc := "()V", sig := { parameters := [], returnType := none }, accessFlags := 2, code := none }
def k18c1 : Code := { maxStack := 2, maxLocals := 2, code := jdk_29_method_65_code, exceptionTable := #[], attributes := #[] }
def k18m1 : Method := { name := "max", desc := "(II)I", sig := { parameters := [.int, .int], returnType := some .int }, accessFlags := 9, code := some k18c1 }
def k18c2 : Code := { maxStack := 2, maxLocals := 2, code := jdk_29_method_69_code, exceptionTable := #[], attributes := #[] }
def k18m2 : Method := { name := "min", desc := "(II)I", sig := { parameters := [.int, .int], returnType := some .int }, accessFlags := 9, code := some k18c2 }
/-- java/lang/Math -/
def k18 : Class := { plain "java/lang/Math" (some 0) with
  accessFlags := 49
  interfaces := #[]
  cf := some (fileOf pool18 1 #[.nestMembers #[98]] #[{ accessFlags := 2, nameIndex := 7, descriptorIndex := 8, attributes := #[] }, { accessFlags := 9, nameIndex := 198, descriptorIndex := 335, attributes := #[] }, { accessFlags := 9, nameIndex := 201, descriptorIndex := 335, attributes := #[] }] 49 4 #[] #[{ accessFlags := 25, nameIndex := 354, descriptorIndex := 339, attributes := #[] }, { accessFlags := 25, nameIndex := 358, descriptorIndex := 339, attributes := #[] }, { accessFlags := 25, nameIndex := 361, descriptorIndex := 339, attributes := #[] }, { accessFlags := 26, nameIndex := 364, descriptorIndex := 339, attributes := #[] }, { accessFlags := 26, nameIndex := 365, descriptorIndex := 339, attributes := #[] }, { accessFlags := 26, nameIndex := 172, descriptorIndex := 173, attributes := #[] }, { accessFlags := 26, nameIndex := 176, descriptorIndex := 173, attributes := #[] }, { accessFlags := 8, nameIndex := 344, descriptorIndex := 339, attributes := #[] }, { accessFlags := 8, nameIndex := 338, descriptorIndex := 339, attributes := #[] }, { accessFlags := 4120, nameIndex := 245, descriptorIndex := 246, attributes := #[] }])
  fields := #[{ name := "E", type := .double, accessFlags := 25, slot := 0, constantValue := 0 }, { name := "PI", type := .double, accessFlags := 25, slot := 1, constantValue := 0 }, { name := "TAU", type := .double, accessFlags := 25, slot := 2, constantValue := 0 }, { name := "DEGREES_TO_RADIANS", type := .double, accessFlags := 26, slot := 3, constantValue := 0 }, { name := "RADIANS_TO_DEGREES", type := .double, accessFlags := 26, slot := 4, constantValue := 0 }, { name := "negativeZeroFloatBits", type := .long, accessFlags := 26, slot := 5, constantValue := 0 }, { name := "negativeZeroDoubleBits", type := .long, accessFlags := 26, slot := 6, constantValue := 0 }, { name := "twoToTheDoubleScaleUp", type := .double, accessFlags := 8, slot := 7, constantValue := 0 }, { name := "twoToTheDoubleScaleDown", type := .double, accessFlags := 8, slot := 8, constantValue := 0 }, { name := "$assertionsDisabled", type := .boolean, accessFlags := 4120, slot := 9, constantValue := 0 }]
  methods := #[k18m0, k18m1, k18m2]
  instanceTypes := #[]
  staticTypes := #[.double, .double, .double, .double, .double, .long, .long, .double, .double, .boolean]
  resolved := Array.replicate 460 none
  statics := none }

def pool19 : Array CpInfo := pool [(1, .class_ 2), (0, u "java/lang/String"), (1, .class_ 6), (1, u "java/lang/Object"), (0, u "<init>"), (0, u "()V"), (0, .methodref 1 10), (0, .nameAndType 11 12), (0, u "checkIndex"), (0, u "(II)V"), (1, .class_ 16), (1, u "java/lang/StringLatin1"), (36, u "([BI)C"), (67, u "$assertionsDisabled"), (0, u "Z"), (98, .class_ 223), (1, u "java/lang/StringLatin1$LinesSpliterator"), (28, u "charAt"), (137, .class_ 391), (0, u "java/lang/StringLatin1$CharsSpliterator")] 3

def k19m0 : Method := { name := "<init>", desc := "()V", sig := { parameters := [], returnType := none }, accessFlags := 0, code := none }
def k19c1 : Code := { maxStack := 2, maxLocals := 2, code := jdk_43_method_2_code, exceptionTable := #[], attributes := #[] }
def k19m1 : Method := { name := "charAt", desc := "([BI)C", sig := { parameters := [(.array .byte), .int], returnType := some .char }, accessFlags := 9, code := some k19c1 }
/-- java/lang/StringLatin1 -/
def k19 : Class := { plain "java/lang/StringLatin1" (some 0) with
  accessFlags := 48
  interfaces := #[]
  cf := some (fileOf pool19 14 #[.nestMembers #[390, 221]] #[{ accessFlags := 0, nameIndex := 7, descriptorIndex := 8, attributes := #[] }, { accessFlags := 9, nameIndex := 252, descriptorIndex := 53, attributes := #[] }] 48 4 #[] #[{ accessFlags := 4120, nameIndex := 121, descriptorIndex := 122, attributes := #[] }])
  fields := #[{ name := "$assertionsDisabled", type := .boolean, accessFlags := 4120, slot := 0, constantValue := 0 }]
  methods := #[k19m0, k19m1]
  instanceTypes := #[]
  staticTypes := #[.boolean]
  resolved := Array.replicate 395 none
  statics := none }

def pool20 : Array CpInfo := pool [(2, .class_ 4), (1, u "java/lang/Object"), (0, u "<init>"), (0, u "()V"), (17, .class_ 26), (1, u "jdk/internal/util/Preconditions"), (6, u "checkIndex"), (21, .class_ 56), (0, u "jdk/internal/util/Preconditions$4"), (57, .class_ 115), (0, u "jdk/internal/util/Preconditions$1"), (7, u "SIOOBE_FORMATTER"), (0, u "Ljava/util/function/BiFunction;"), (0, .class_ 126), (0, u "jdk/internal/util/Preconditions$2"), (3, u "AIOOBE_FORMATTER"), (0, .class_ 132), (0, u "jdk/internal/util/Preconditions$3"), (3, u "IOOBE_FORMATTER"), (41, u "(IILjava/util/function/BiFunction;)I")] 15

def k20m0 : Method := { name := "<init>", desc := "()V", sig := { parameters := [], returnType := none }, accessFlags := 1, code := none }
def k20c1 : Code := { maxStack := 3, maxLocals := 3, code := jdk_41_method_11_code, exceptionTable := #[], attributes := #[] }
def k20m1 : Method := { name := "checkIndex", desc := "(IILjava/util/function/BiFunction;)I", sig := { parameters := [.int, .int, (.object "java/util/function/BiFunction")], returnType := some .int }, accessFlags := 9, code := some k20c1 }
/-- jdk/internal/util/Preconditions -/
def k20 : Class := { plain "jdk/internal/util/Preconditions" (some 0) with
  accessFlags := 33
  interfaces := #[]
  cf := some (fileOf pool20 24 #[.nestMembers #[55, 131, 125, 114]] #[{ accessFlags := 1, nameIndex := 5, descriptorIndex := 6, attributes := #[] }, { accessFlags := 9, nameIndex := 33, descriptorIndex := 178, attributes := #[] }] 33 2 #[] #[{ accessFlags := 25, nameIndex := 123, descriptorIndex := 124, attributes := #[] }, { accessFlags := 25, nameIndex := 130, descriptorIndex := 124, attributes := #[] }, { accessFlags := 25, nameIndex := 136, descriptorIndex := 124, attributes := #[] }])
  fields := #[{ name := "SIOOBE_FORMATTER", type := (.object "java/util/function/BiFunction"), accessFlags := 25, slot := 0, constantValue := 0 }, { name := "AIOOBE_FORMATTER", type := (.object "java/util/function/BiFunction"), accessFlags := 25, slot := 1, constantValue := 0 }, { name := "IOOBE_FORMATTER", type := (.object "java/util/function/BiFunction"), accessFlags := 25, slot := 2, constantValue := 0 }]
  methods := #[k20m0, k20m1]
  instanceTypes := #[]
  staticTypes := #[(.object "java/util/function/BiFunction"), (.object "java/util/function/BiFunction"), (.object "java/util/function/BiFunction")]
  resolved := Array.replicate 194 none
  statics := some 2 }

def pool21 : Array CpInfo := pool [(9, u "<init>"), (6, .class_ 18), (1, u "java/lang/Object"), (0, u "()V"), (1, .class_ 23), (1, u "jdk/internal/util/ArraysSupport"), (0, u "LOG2_ARRAY_LONG_INDEX_SCALE"), (0, u "I"), (2, u "U"), (0, u "Ljdk/internal/misc/Unsafe;"), (8, u "BIG_ENDIAN"), (0, u "Z"), (8, u "LOG2_BYTE_BIT_SIZE"), (4, u "LOG2_ARRAY_INT_INDEX_SCALE"), (54, u "JLA"), (0, u "Ljdk/internal/access/JavaLangAccess;"), (11, u "LOG2_ARRAY_BOOLEAN_INDEX_SCALE"), (9, u "LOG2_ARRAY_BYTE_INDEX_SCALE"), (5, u "LOG2_ARRAY_CHAR_INDEX_SCALE"), (5, u "LOG2_ARRAY_SHORT_INDEX_SCALE"), (18, u "LOG2_ARRAY_FLOAT_INDEX_SCALE"), (24, u "LOG2_ARRAY_DOUBLE_INDEX_SCALE"), (6, .methodref 195 196), (0, .class_ 197), (0, .nameAndType 198 199), (0, u "java/lang/Math"), (0, u "max"), (0, u "(II)I"), (0, .integer 2147483639), (76, u "T_BOOLEAN"), (2, u "T_CHAR"), (1, u "T_FLOAT"), (1, u "T_DOUBLE"), (1, u "T_BYTE"), (1, u "T_SHORT"), (1, u "T_INT"), (1, u "T_LONG"), (1, u "SOFT_MAX_ARRAY_LENGTH"), (56, u "newLength"), (0, u "(III)I")] 25

def k21m0 : Method := { name := "<init>", desc := "()V", sig := { parameters := [], returnType := none }, accessFlags := 2, code := none }
def k21c1 : Code := { maxStack := 3, maxLocals := 4, code := jdk_48_method_27_code, exceptionTable := #[], attributes := #[] }
def k21m1 : Method := { name := "newLength", desc := "(III)I", sig := { parameters := [.int, .int, .int], returnType := some .int }, accessFlags := 9, code := some k21c1 }
/-- jdk/internal/util/ArraysSupport -/
def k21 : Class := { plain "jdk/internal/util/ArraysSupport" (some 0) with
  accessFlags := 33
  interfaces := #[]
  cf := some (fileOf pool21 21 #[] #[{ accessFlags := 2, nameIndex := 9, descriptorIndex := 19, attributes := #[] }, { accessFlags := 9, nameIndex := 351, descriptorIndex := 352, attributes := #[] }] 33 16 #[] #[{ accessFlags := 24, nameIndex := 28, descriptorIndex := 29, attributes := #[] }, { accessFlags := 26, nameIndex := 38, descriptorIndex := 39, attributes := #[] }, { accessFlags := 25, nameIndex := 121, descriptorIndex := 25, attributes := #[] }, { accessFlags := 25, nameIndex := 131, descriptorIndex := 25, attributes := #[] }, { accessFlags := 25, nameIndex := 137, descriptorIndex := 25, attributes := #[] }, { accessFlags := 25, nameIndex := 143, descriptorIndex := 25, attributes := #[] }, { accessFlags := 25, nameIndex := 53, descriptorIndex := 25, attributes := #[] }, { accessFlags := 25, nameIndex := 24, descriptorIndex := 25, attributes := #[] }, { accessFlags := 25, nameIndex := 162, descriptorIndex := 25, attributes := #[] }, { accessFlags := 25, nameIndex := 187, descriptorIndex := 25, attributes := #[] }, { accessFlags := 26, nameIndex := 48, descriptorIndex := 25, attributes := #[] }, { accessFlags := 25, nameIndex := 277, descriptorIndex := 25, attributes := #[] }, { accessFlags := 25, nameIndex := 280, descriptorIndex := 25, attributes := #[] }, { accessFlags := 25, nameIndex := 282, descriptorIndex := 25, attributes := #[] }, { accessFlags := 25, nameIndex := 284, descriptorIndex := 25, attributes := #[] }, { accessFlags := 25, nameIndex := 286, descriptorIndex := 25, attributes := #[] }, { accessFlags := 25, nameIndex := 288, descriptorIndex := 25, attributes := #[] }, { accessFlags := 25, nameIndex := 290, descriptorIndex := 25, attributes := #[] }, { accessFlags := 25, nameIndex := 292, descriptorIndex := 25, attributes := #[] }, { accessFlags := 26, nameIndex := 108, descriptorIndex := 109, attributes := #[] }, { accessFlags := 25, nameIndex := 294, descriptorIndex := 25, attributes := #[] }])
  fields := #[{ name := "U", type := (.object "jdk/internal/misc/Unsafe"), accessFlags := 24, slot := 0, constantValue := 0 }, { name := "BIG_ENDIAN", type := .boolean, accessFlags := 26, slot := 1, constantValue := 0 }, { name := "LOG2_ARRAY_BOOLEAN_INDEX_SCALE", type := .int, accessFlags := 25, slot := 2, constantValue := 0 }, { name := "LOG2_ARRAY_BYTE_INDEX_SCALE", type := .int, accessFlags := 25, slot := 3, constantValue := 0 }, { name := "LOG2_ARRAY_CHAR_INDEX_SCALE", type := .int, accessFlags := 25, slot := 4, constantValue := 0 }, { name := "LOG2_ARRAY_SHORT_INDEX_SCALE", type := .int, accessFlags := 25, slot := 5, constantValue := 0 }, { name := "LOG2_ARRAY_INT_INDEX_SCALE", type := .int, accessFlags := 25, slot := 6, constantValue := 0 }, { name := "LOG2_ARRAY_LONG_INDEX_SCALE", type := .int, accessFlags := 25, slot := 7, constantValue := 0 }, { name := "LOG2_ARRAY_FLOAT_INDEX_SCALE", type := .int, accessFlags := 25, slot := 8, constantValue := 0 }, { name := "LOG2_ARRAY_DOUBLE_INDEX_SCALE", type := .int, accessFlags := 25, slot := 9, constantValue := 0 }, { name := "LOG2_BYTE_BIT_SIZE", type := .int, accessFlags := 26, slot := 10, constantValue := 0 }, { name := "T_BOOLEAN", type := .int, accessFlags := 25, slot := 11, constantValue := 0 }, { name := "T_CHAR", type := .int, accessFlags := 25, slot := 12, constantValue := 0 }, { name := "T_FLOAT", type := .int, accessFlags := 25, slot := 13, constantValue := 0 }, { name := "T_DOUBLE", type := .int, accessFlags := 25, slot := 14, constantValue := 0 }, { name := "T_BYTE", type := .int, accessFlags := 25, slot := 15, constantValue := 0 }, { name := "T_SHORT", type := .int, accessFlags := 25, slot := 16, constantValue := 0 }, { name := "T_INT", type := .int, accessFlags := 25, slot := 17, constantValue := 0 }, { name := "T_LONG", type := .int, accessFlags := 25, slot := 18, constantValue := 0 }, { name := "JLA", type := (.object "jdk/internal/access/JavaLangAccess"), accessFlags := 26, slot := 19, constantValue := 0 }, { name := "SOFT_MAX_ARRAY_LENGTH", type := .int, accessFlags := 25, slot := 20, constantValue := 0 }]
  methods := #[k21m0, k21m1]
  instanceTypes := #[]
  staticTypes := #[(.object "jdk/internal/misc/Unsafe"), .boolean, .int, .int, .int, .int, .int, .int, .int, .int, .int, .int, .int, .int, .int, .int, .int, .int, .int, (.object "jdk/internal/access/JavaLangAccess"), .int]
  resolved := Array.replicate 378 none
  statics := none }

def pool22 : Array CpInfo := pool [(1, .class_ 2), (0, u "java/lang/Cloneable"), (0, .class_ 4), (0, u "java/lang/Object")] 2

/-- java/lang/Cloneable -/
def k22 : Class := { plain "java/lang/Cloneable" (some 0) with
  accessFlags := 1537
  interfaces := #[]
  cf := some (fileOf pool22 1 #[] #[] 1537 3 #[] #[])
  fields := #[]
  methods := #[]
  instanceTypes := #[]
  staticTypes := #[]
  resolved := Array.replicate 7 none
  statics := none }

/-- the primitive byte -/
def k23 : Class := { plain "byte" none with kind := .primitive 'B', accessFlags := 0x411 }
/-- [B -/
def k24 : Class := { plain "[B" (some 0) with kind := .array 23 .byte, interfaces := #[22, 2], accessFlags := 1041 }

/-- the primitive char -/
def k25 : Class := { plain "char" none with kind := .primitive 'C', accessFlags := 0x411 }
/-- [C -/
def k26 : Class := { plain "[C" (some 0) with kind := .array 25 .char, interfaces := #[22, 2], accessFlags := 1041 }

/-- the primitive int -/
def k27 : Class := { plain "int" none with kind := .primitive 'I', accessFlags := 0x411 }
/-- [I -/
def k28 : Class := { plain "[I" (some 0) with kind := .array 27 .int, interfaces := #[22, 2], accessFlags := 1041 }

/-- the primitive long -/
def k29 : Class := { plain "long" none with kind := .primitive 'J', accessFlags := 0x411 }
/-- [J -/
def k30 : Class := { plain "[J" (some 0) with kind := .array 29 .long, interfaces := #[22, 2], accessFlags := 1041 }

def heap : Heap := #[{ cls := 7, slots := #[.long 0, .int 1, .null, .int 0, .null, .int 0, .int 0], vm := .statics 7 },
  { cls := 16, slots := #[.int 0, .int 0, .null, .null, .ref 4, .ref 3, .int 0, .int 0, .long 0], vm := .statics 16 },
  { cls := 20, slots := #[.null, .null, .null], vm := .statics 20 },
  { cls := 24, slots := #[.int 48, .int 49, .int 50, .int 51, .int 52, .int 53, .int 54, .int 55, .int 56, .int 57, .int 48, .int 49, .int 50, .int 51, .int 52, .int 53, .int 54, .int 55, .int 56, .int 57, .int 48, .int 49, .int 50, .int 51, .int 52, .int 53, .int 54, .int 55, .int 56, .int 57, .int 48, .int 49, .int 50, .int 51, .int 52, .int 53, .int 54, .int 55, .int 56, .int 57, .int 48, .int 49, .int 50, .int 51, .int 52, .int 53, .int 54, .int 55, .int 56, .int 57, .int 48, .int 49, .int 50, .int 51, .int 52, .int 53, .int 54, .int 55, .int 56, .int 57, .int 48, .int 49, .int 50, .int 51, .int 52, .int 53, .int 54, .int 55, .int 56, .int 57, .int 48, .int 49, .int 50, .int 51, .int 52, .int 53, .int 54, .int 55, .int 56, .int 57, .int 48, .int 49, .int 50, .int 51, .int 52, .int 53, .int 54, .int 55, .int 56, .int 57, .int 48, .int 49, .int 50, .int 51, .int 52, .int 53, .int 54, .int 55, .int 56, .int 57], vm := .none },
  { cls := 24, slots := #[.int 48, .int 48, .int 48, .int 48, .int 48, .int 48, .int 48, .int 48, .int 48, .int 48, .int 49, .int 49, .int 49, .int 49, .int 49, .int 49, .int 49, .int 49, .int 49, .int 49, .int 50, .int 50, .int 50, .int 50, .int 50, .int 50, .int 50, .int 50, .int 50, .int 50, .int 51, .int 51, .int 51, .int 51, .int 51, .int 51, .int 51, .int 51, .int 51, .int 51, .int 52, .int 52, .int 52, .int 52, .int 52, .int 52, .int 52, .int 52, .int 52, .int 52, .int 53, .int 53, .int 53, .int 53, .int 53, .int 53, .int 53, .int 53, .int 53, .int 53, .int 54, .int 54, .int 54, .int 54, .int 54, .int 54, .int 54, .int 54, .int 54, .int 54, .int 55, .int 55, .int 55, .int 55, .int 55, .int 55, .int 55, .int 55, .int 55, .int 55, .int 56, .int 56, .int 56, .int 56, .int 56, .int 56, .int 56, .int 56, .int 56, .int 56, .int 57, .int 57, .int 57, .int 57, .int 57, .int 57, .int 57, .int 57, .int 57, .int 57], vm := .none }]
def classes : Array Class := #[k0, k1, k2, k3, k4, k5, k6, k7, k8, k9, k10, k11, k12, k13, k14, k15, k16, k17, k18, k19, k20, k21, k22, k23, k24, k25, k26, k27, k28, k29, k30]
def interned : List (Array UInt16 × Addr) := []
def slotsUsed : Nat := 219
def theMethod : MethodId := ⟨1, 2⟩
def args0 : Array Value := #[.long 5, .int 5, .int 5, .int 5]
def aboutOver (below : List Frame) : State where
  vm := { classes := classes, interned := interned.toArray }
  heap := heap
  slotsUsed := slotsUsed
  threads := #[{ frames := .invoking theMethod args0 :: below }]
def below0 : List Frame := [.native { method := ⟨0, 0⟩, args := #[] }]
def about1 : State := aboutOver below0
def p0 : Program := .bare "" "" ""
def e0 : Env := launch0.env 0 0 0
theorem w_frames : about1.frames = Frame.invoking theMethod args0 :: below0 := rfl
set_option maxRecDepth 65536 in
theorem w_args : argsFit about1.vm theMethod args0 = true := by decide +kernel
set_option maxRecDepth 65536 in
theorem w_heap : heapFits about1 = true := by decide +kernel
set_option maxRecDepth 65536 in
theorem w_runnable : about1.curStatus? = some .runnable := by decide +kernel
set_option maxRecDepth 65536 in
theorem w_alone : about1.alone = true := by decide +kernel
set_option maxRecDepth 65536 in
theorem w_named : about1.methodNamed? x = some theMethod := by decide +kernel
set_option maxRecDepth 65536 in
theorem w_hears : about1.hears theMethod below0 = true := by decide +kernel
set_option maxRecDepth 65536 in
theorem w_ripe : about1.ripe theMethod args0 below0 = true := by decide +kernel
theorem w_running : about1.status = .running := rfl
set_option maxRecDepth 65536 in
theorem w_room : about1.hasRoom e0.platform room_1 = true :=
  launch0.hasRoom_least _ room_1 (by decide +kernel) (by decide +kernel) (by decide +kernel) (by decide +kernel) (by decide +kernel) (by decide +kernel)
theorem allAtoms_all (ts : List Jvm.Cond) (a : Array Jvm.Value) (st : Jvm.State) : (allAtoms ts).before a st = ts.all (fun c => c.before a st) := by
  induction ts with
  | nil => rfl
  | cons c t ih =>
    show (Jvm.Cond.and c (allAtoms t)).before a st = _
    rw [Jvm.Cond.before_and, ih, List.all_cons]
def words1 : List Jvm.Cond := Jvm.Cond.code x code maxLocals ret :: tables_1
/-- a 'code' word, met by the world's own term for the bytes: nothing is compared byte by byte -/
theorem code_word {y : MethodName} {bytes : ByteArray} {mx : Nat} {rt : Option FieldType} {a : Array Value} {s : State} {m : MethodId} {meth : Method} {c : Code} (h1 : s.methodNamed? y = some m) (h2 : s.vm.method? m = some meth) (h3 : meth.code = some c) (h4 : c.code = bytes)
    (h5 : (c.maxLocals == mx && c.exceptionTable.isEmpty && decide (c.maxStack ≤ mostOperands) && decide (meth.sig.returnType = rt) && !meth.locks && decide (parseMethodDescriptor y.desc = some meth.sig)) = true) : (Jvm.Cond.code y bytes mx rt).before a s = true := by
  simp only [Bool.and_eq_true, beq_iff_eq, Bool.not_eq_true', decide_eq_true_eq] at h5
  obtain ⟨⟨⟨⟨⟨g1, g2⟩, g3⟩, g4⟩, g5⟩, g6⟩ := h5
  simp [Cond.before, Cond.holds, Cond.value, h1, h2, h3, h4, g1, g2, g3, g4, g5, g6]
def isCode : Jvm.Cond → Bool
  | .code _ _ _ _ => true
  | _ => false
theorem all_split {L : List Jvm.Cond} {P : Jvm.Cond → Bool} (h1 : L.all (fun c => isCode c || P c) = true) (h2 : ∀ c ∈ L.filter isCode, P c = true) : L.all P = true := by
  refine List.all_eq_true.mpr fun c hc => ?_
  have h := List.all_eq_true.mp h1 c hc
  rcases Bool.eq_false_or_eq_true (isCode c) with hi | hi
  · exact h2 c (List.mem_filter.mpr ⟨hc, hi⟩)
  · simpa [hi] using h
set_option maxRecDepth 65536 in
theorem w_c0 : (Jvm.Cond.code x code maxLocals ret).before args0 about1 = true := code_word (m := ⟨1, 2⟩) (meth := k1m2) (c := k1c2) (by decide +kernel) rfl rfl rfl (by decide +kernel)
set_option maxRecDepth 65536 in
theorem w_c1 : (Jvm.Cond.code ({ cls := "java/lang/String", name := "<init>", desc := "([C)V" } : Jvm.MethodName) jdk_42_method_3_code (2 : Nat) (Option.none : Option Jvm.ClassFile.FieldType)).before args0 about1 = true := code_word (m := ⟨7, 1⟩) (meth := k7m1) (c := k7c1) (by decide +kernel) rfl rfl rfl (by decide +kernel)
set_option maxRecDepth 65536 in
theorem w_c2 : (Jvm.Cond.code ({ cls := "java/lang/String", name := "<init>", desc := "([CIILjava/lang/Void;)V" } : Jvm.MethodName) jdk_42_method_149_code (6 : Nat) (Option.none : Option Jvm.ClassFile.FieldType)).before args0 about1 = true := code_word (m := ⟨7, 6⟩) (meth := k7m6) (c := k7c6) (by decide +kernel) rfl rfl rfl (by decide +kernel)
set_option maxRecDepth 65536 in
theorem w_c3 : (Jvm.Cond.code ({ cls := "java/lang/Object", name := "<init>", desc := "()V" } : Jvm.MethodName) object_method_1_code (1 : Nat) (Option.none : Option Jvm.ClassFile.FieldType)).before args0 about1 = true := code_word (m := ⟨0, 0⟩) (meth := k0m0) (c := k0c0) (by decide +kernel) rfl rfl rfl (by decide +kernel)
set_option maxRecDepth 65536 in
theorem w_c4 : (Jvm.Cond.code ({ cls := "java/lang/StringUTF16", name := "compress", desc := "([CII)[B" } : Jvm.MethodName) jdk_52_method_16_code (6 : Nat) (Option.some (Jvm.ClassFile.FieldType.array Jvm.ClassFile.FieldType.byte))).before args0 about1 = true := code_word (m := ⟨8, 2⟩) (meth := k8m2) (c := k8c2) (by decide +kernel) rfl rfl rfl (by decide +kernel)
set_option maxRecDepth 65536 in
theorem w_c5 : (Jvm.Cond.code ({ cls := "java/lang/StringUTF16", name := "compress", desc := "([CI[BII)I" } : Jvm.MethodName) jdk_52_method_21_code (7 : Nat) (Option.some Jvm.ClassFile.FieldType.int)).before args0 about1 = true := code_word (m := ⟨8, 3⟩) (meth := k8m3) (c := k8c3) (by decide +kernel) rfl rfl rfl (by decide +kernel)
set_option maxRecDepth 65536 in
theorem w_c6 : (Jvm.Cond.code ({ cls := "java/lang/StringUTF16", name := "coderFromArrayLen", desc := "([BI)B" } : Jvm.MethodName) jdk_52_method_15_code (2 : Nat) (Option.some Jvm.ClassFile.FieldType.byte)).before args0 about1 = true := code_word (m := ⟨8, 1⟩) (meth := k8m1) (c := k8c1) (by decide +kernel) rfl rfl rfl (by decide +kernel)
set_option maxRecDepth 65536 in
theorem w_c7 : (Jvm.Cond.code ({ cls := "com/example/strict_tariff/stricttariff/pricing/RefusedReading", name := "<init>", desc := "(JLjava/lang/String;)V" } : Jvm.MethodName) prog_14_method_1_code (4 : Nat) (Option.none : Option Jvm.ClassFile.FieldType)).before args0 about1 = true := code_word (m := ⟨9, 0⟩) (meth := k9m0) (c := k9c0) (by decide +kernel) rfl rfl rfl (by decide +kernel)
set_option maxRecDepth 65536 in
theorem w_c8 : (Jvm.Cond.code ({ cls := "com/example/strict_tariff/stricttariff/pricing/RefusedReading", name := "message", desc := "()Ljava/lang/String;" } : Jvm.MethodName) prog_14_method_4_code (1 : Nat) (Option.some (Jvm.ClassFile.FieldType.object "java/lang/String"))).before args0 about1 = true := code_word (m := ⟨9, 1⟩) (meth := k9m1) (c := k9c1) (by decide +kernel) rfl rfl rfl (by decide +kernel)
set_option maxRecDepth 65536 in
theorem w_c9 : (Jvm.Cond.code ({ cls := "java/lang/StringBuilder", name := "<init>", desc := "()V" } : Jvm.MethodName) jdk_67_method_1_code (1 : Nat) (Option.none : Option Jvm.ClassFile.FieldType)).before args0 about1 = true := code_word (m := ⟨12, 0⟩) (meth := k12m0) (c := k12c0) (by decide +kernel) rfl rfl rfl (by decide +kernel)
set_option maxRecDepth 65536 in
theorem w_c10 : (Jvm.Cond.code ({ cls := "java/lang/AbstractStringBuilder", name := "<init>", desc := "(I)V" } : Jvm.MethodName) jdk_68_method_2_code (2 : Nat) (Option.none : Option Jvm.ClassFile.FieldType)).before args0 about1 = true := code_word (m := ⟨11, 1⟩) (meth := k11m1) (c := k11c1) (by decide +kernel) rfl rfl rfl (by decide +kernel)
set_option maxRecDepth 65536 in
theorem w_c11 : (Jvm.Cond.code ({ cls := "java/lang/StringBuilder", name := "append", desc := "(Ljava/lang/String;)Ljava/lang/StringBuilder;" } : Jvm.MethodName) jdk_67_method_7_code (2 : Nat) (Option.some (Jvm.ClassFile.FieldType.object "java/lang/StringBuilder"))).before args0 about1 = true := code_word (m := ⟨12, 1⟩) (meth := k12m1) (c := k12c1) (by decide +kernel) rfl rfl rfl (by decide +kernel)
set_option maxRecDepth 65536 in
theorem w_c12 : (Jvm.Cond.code ({ cls := "java/lang/AbstractStringBuilder", name := "append", desc := "(Ljava/lang/String;)Ljava/lang/AbstractStringBuilder;" } : Jvm.MethodName) jdk_68_method_22_code (3 : Nat) (Option.some (Jvm.ClassFile.FieldType.object "java/lang/AbstractStringBuilder"))).before args0 about1 = true := code_word (m := ⟨11, 5⟩) (meth := k11m5) (c := k11c5) (by decide +kernel) rfl rfl rfl (by decide +kernel)
set_option maxRecDepth 65536 in
theorem w_c13 : (Jvm.Cond.code ({ cls := "java/lang/String", name := "length", desc := "()I" } : Jvm.MethodName) jdk_42_method_54_code (1 : Nat) (Option.some Jvm.ClassFile.FieldType.int)).before args0 about1 = true := code_word (m := ⟨7, 3⟩) (meth := k7m3) (c := k7c3) (by decide +kernel) rfl rfl rfl (by decide +kernel)
set_option maxRecDepth 65536 in
theorem w_c14 : (Jvm.Cond.code ({ cls := "java/lang/String", name := "coder", desc := "()B" } : Jvm.MethodName) jdk_42_method_152_code (1 : Nat) (Option.some Jvm.ClassFile.FieldType.byte)).before args0 about1 = true := code_word (m := ⟨7, 8⟩) (meth := k7m8) (c := k7c8) (by decide +kernel) rfl rfl rfl (by decide +kernel)
set_option maxRecDepth 65536 in
theorem w_c15 : (Jvm.Cond.code ({ cls := "java/lang/AbstractStringBuilder", name := "ensureCapacityInternal", desc := "(I)V" } : Jvm.MethodName) jdk_68_method_9_code (3 : Nat) (Option.none : Option Jvm.ClassFile.FieldType)).before args0 about1 = true := code_word (m := ⟨11, 3⟩) (meth := k11m3) (c := k11c3) (by decide +kernel) rfl rfl rfl (by decide +kernel)
set_option maxRecDepth 65536 in
theorem w_c16 : (Jvm.Cond.code ({ cls := "java/lang/AbstractStringBuilder", name := "putStringAt", desc := "(ILjava/lang/String;)V" } : Jvm.MethodName) jdk_68_method_73_code (3 : Nat) (Option.none : Option Jvm.ClassFile.FieldType)).before args0 about1 = true := code_word (m := ⟨11, 10⟩) (meth := k11m10) (c := k11c10) (by decide +kernel) rfl rfl rfl (by decide +kernel)
set_option maxRecDepth 65536 in
theorem w_c17 : (Jvm.Cond.code ({ cls := "java/lang/AbstractStringBuilder", name := "inflateIfNeededFor", desc := "(Ljava/lang/String;)V" } : Jvm.MethodName) jdk_68_method_71_code (2 : Nat) (Option.none : Option Jvm.ClassFile.FieldType)).before args0 about1 = true := code_word (m := ⟨11, 9⟩) (meth := k11m9) (c := k11c9) (by decide +kernel) rfl rfl rfl (by decide +kernel)
set_option maxRecDepth 65536 in
theorem w_c18 : (Jvm.Cond.code ({ cls := "java/lang/String", name := "getBytes", desc := "([BIB)V" } : Jvm.MethodName) jdk_42_method_147_code (4 : Nat) (Option.none : Option Jvm.ClassFile.FieldType)).before args0 about1 = true := code_word (m := ⟨7, 5⟩) (meth := k7m5) (c := k7c5) (by decide +kernel) rfl rfl rfl (by decide +kernel)
set_option maxRecDepth 65536 in
theorem w_c19 : (Jvm.Cond.code ({ cls := "java/lang/StringBuilder", name := "append", desc := "(J)Ljava/lang/StringBuilder;" } : Jvm.MethodName) jdk_67_method_16_code (3 : Nat) (Option.some (Jvm.ClassFile.FieldType.object "java/lang/StringBuilder"))).before args0 about1 = true := code_word (m := ⟨12, 2⟩) (meth := k12m2) (c := k12c2) (by decide +kernel) rfl rfl rfl (by decide +kernel)
set_option maxRecDepth 65536 in
theorem w_c20 : (Jvm.Cond.code ({ cls := "java/lang/AbstractStringBuilder", name := "append", desc := "(J)Ljava/lang/AbstractStringBuilder;" } : Jvm.MethodName) jdk_68_method_33_code (5 : Nat) (Option.some (Jvm.ClassFile.FieldType.object "java/lang/AbstractStringBuilder"))).before args0 about1 = true := code_word (m := ⟨11, 6⟩) (meth := k11m6) (c := k11c6) (by decide +kernel) rfl rfl rfl (by decide +kernel)
set_option maxRecDepth 65536 in
theorem w_c21 : (Jvm.Cond.code ({ cls := "java/lang/Long", name := "stringSize", desc := "(J)I" } : Jvm.MethodName) jdk_35_method_15_code (6 : Nat) (Option.some Jvm.ClassFile.FieldType.int)).before args0 about1 = true := code_word (m := ⟨15, 1⟩) (meth := k15m1) (c := k15c1) (by decide +kernel) rfl rfl rfl (by decide +kernel)
set_option maxRecDepth 65536 in
theorem w_c22 : (Jvm.Cond.code ({ cls := "java/lang/AbstractStringBuilder", name := "isLatin1", desc := "()Z" } : Jvm.MethodName) jdk_68_method_68_code (1 : Nat) (Option.some Jvm.ClassFile.FieldType.boolean)).before args0 about1 = true := code_word (m := ⟨11, 8⟩) (meth := k11m8) (c := k11c8) (by decide +kernel) rfl rfl rfl (by decide +kernel)
set_option maxRecDepth 65536 in
theorem w_c23 : (Jvm.Cond.code ({ cls := "java/lang/Long", name := "getChars", desc := "(JI[B)I" } : Jvm.MethodName) jdk_35_method_14_code (11 : Nat) (Option.some Jvm.ClassFile.FieldType.int)).before args0 about1 = true := code_word (m := ⟨15, 0⟩) (meth := k15m0) (c := k15c0) (by decide +kernel) rfl rfl rfl (by decide +kernel)
set_option maxRecDepth 65536 in
theorem w_c24 : (Jvm.Cond.code ({ cls := "java/lang/StringBuilder", name := "toString", desc := "()Ljava/lang/String;" } : Jvm.MethodName) jdk_67_method_42_code (1 : Nat) (Option.some (Jvm.ClassFile.FieldType.object "java/lang/String"))).before args0 about1 = true := code_word (m := ⟨12, 3⟩) (meth := k12m3) (c := k12c3) (by decide +kernel) rfl rfl rfl (by decide +kernel)
set_option maxRecDepth 65536 in
theorem w_c25 : (Jvm.Cond.code ({ cls := "java/lang/String", name := "<init>", desc := "(Ljava/lang/StringBuilder;)V" } : Jvm.MethodName) jdk_42_method_53_code (2 : Nat) (Option.none : Option Jvm.ClassFile.FieldType)).before args0 about1 = true := code_word (m := ⟨7, 2⟩) (meth := k7m2) (c := k7c2) (by decide +kernel) rfl rfl rfl (by decide +kernel)
set_option maxRecDepth 65536 in
theorem w_c26 : (Jvm.Cond.code ({ cls := "java/lang/String", name := "<init>", desc := "(Ljava/lang/AbstractStringBuilder;Ljava/lang/Void;)V" } : Jvm.MethodName) jdk_42_method_150_code (5 : Nat) (Option.none : Option Jvm.ClassFile.FieldType)).before args0 about1 = true := code_word (m := ⟨7, 7⟩) (meth := k7m7) (c := k7c7) (by decide +kernel) rfl rfl rfl (by decide +kernel)
set_option maxRecDepth 65536 in
theorem w_c27 : (Jvm.Cond.code ({ cls := "java/lang/AbstractStringBuilder", name := "getValue", desc := "()[B" } : Jvm.MethodName) jdk_68_method_64_code (1 : Nat) (Option.some (Jvm.ClassFile.FieldType.array Jvm.ClassFile.FieldType.byte))).before args0 about1 = true := code_word (m := ⟨11, 7⟩) (meth := k11m7) (c := k11c7) (by decide +kernel) rfl rfl rfl (by decide +kernel)
set_option maxRecDepth 65536 in
theorem w_c28 : (Jvm.Cond.code ({ cls := "java/lang/StringBuilder", name := "length", desc := "()I" } : Jvm.MethodName) jdk_67_method_93_code (1 : Nat) (Option.some Jvm.ClassFile.FieldType.int)).before args0 about1 = true := code_word (m := ⟨12, 4⟩) (meth := k12m4) (c := k12c4) (by decide +kernel) rfl rfl rfl (by decide +kernel)
set_option maxRecDepth 65536 in
theorem w_c29 : (Jvm.Cond.code ({ cls := "java/lang/AbstractStringBuilder", name := "length", desc := "()I" } : Jvm.MethodName) jdk_68_method_6_code (1 : Nat) (Option.some Jvm.ClassFile.FieldType.int)).before args0 about1 = true := code_word (m := ⟨11, 2⟩) (meth := k11m2) (c := k11c2) (by decide +kernel) rfl rfl rfl (by decide +kernel)
set_option maxRecDepth 65536 in
theorem w_c30 : (Jvm.Cond.code ({ cls := "java/util/Arrays", name := "copyOfRange", desc := "([BII)[B" } : Jvm.MethodName) jdk_65_method_132_code (3 : Nat) (Option.some (Jvm.ClassFile.FieldType.array Jvm.ClassFile.FieldType.byte))).before args0 about1 = true := code_word (m := ⟨17, 3⟩) (meth := k17m3) (c := k17c3) (by decide +kernel) rfl rfl rfl (by decide +kernel)
set_option maxRecDepth 65536 in
theorem w_c31 : (Jvm.Cond.code ({ cls := "java/util/Arrays", name := "copyOfRangeByte", desc := "([BII)[B" } : Jvm.MethodName) jdk_65_method_133_code (5 : Nat) (Option.some (Jvm.ClassFile.FieldType.array Jvm.ClassFile.FieldType.byte))).before args0 about1 = true := code_word (m := ⟨17, 4⟩) (meth := k17m4) (c := k17c4) (by decide +kernel) rfl rfl rfl (by decide +kernel)
set_option maxRecDepth 65536 in
theorem w_c32 : (Jvm.Cond.code ({ cls := "java/util/Arrays", name := "checkLength", desc := "(II)V" } : Jvm.MethodName) jdk_65_method_131_code (2 : Nat) (Option.none : Option Jvm.ClassFile.FieldType)).before args0 about1 = true := code_word (m := ⟨17, 2⟩) (meth := k17m2) (c := k17c2) (by decide +kernel) rfl rfl rfl (by decide +kernel)
set_option maxRecDepth 65536 in
theorem w_c33 : (Jvm.Cond.code ({ cls := "java/lang/Math", name := "min", desc := "(II)I" } : Jvm.MethodName) jdk_29_method_69_code (2 : Nat) (Option.some Jvm.ClassFile.FieldType.int)).before args0 about1 = true := code_word (m := ⟨18, 2⟩) (meth := k18m2) (c := k18c2) (by decide +kernel) rfl rfl rfl (by decide +kernel)
set_option maxRecDepth 65536 in
theorem w_c34 : (Jvm.Cond.code ({ cls := "java/lang/String", name := "charAt", desc := "(I)C" } : Jvm.MethodName) jdk_42_method_56_code (2 : Nat) (Option.some Jvm.ClassFile.FieldType.char)).before args0 about1 = true := code_word (m := ⟨7, 4⟩) (meth := k7m4) (c := k7c4) (by decide +kernel) rfl rfl rfl (by decide +kernel)
set_option maxRecDepth 65536 in
theorem w_c35 : (Jvm.Cond.code ({ cls := "java/lang/String", name := "isLatin1", desc := "()Z" } : Jvm.MethodName) jdk_42_method_154_code (1 : Nat) (Option.some Jvm.ClassFile.FieldType.boolean)).before args0 about1 = true := code_word (m := ⟨7, 9⟩) (meth := k7m9) (c := k7c9) (by decide +kernel) rfl rfl rfl (by decide +kernel)
set_option maxRecDepth 65536 in
theorem w_c36 : (Jvm.Cond.code ({ cls := "java/lang/StringLatin1", name := "charAt", desc := "([BI)C" } : Jvm.MethodName) jdk_43_method_2_code (2 : Nat) (Option.some Jvm.ClassFile.FieldType.char)).before args0 about1 = true := code_word (m := ⟨19, 1⟩) (meth := k19m1) (c := k19c1) (by decide +kernel) rfl rfl rfl (by decide +kernel)
set_option maxRecDepth 65536 in
theorem w_c37 : (Jvm.Cond.code ({ cls := "java/lang/String", name := "checkIndex", desc := "(II)V" } : Jvm.MethodName) jdk_42_method_155_code (2 : Nat) (Option.none : Option Jvm.ClassFile.FieldType)).before args0 about1 = true := code_word (m := ⟨7, 10⟩) (meth := k7m10) (c := k7c10) (by decide +kernel) rfl rfl rfl (by decide +kernel)
set_option maxRecDepth 65536 in
theorem w_c38 : (Jvm.Cond.code ({ cls := "jdk/internal/util/Preconditions", name := "checkIndex", desc := "(IILjava/util/function/BiFunction;)I" } : Jvm.MethodName) jdk_41_method_11_code (3 : Nat) (Option.some Jvm.ClassFile.FieldType.int)).before args0 about1 = true := code_word (m := ⟨20, 1⟩) (meth := k20m1) (c := k20c1) (by decide +kernel) rfl rfl rfl (by decide +kernel)
set_option maxRecDepth 65536 in
theorem w_c39 : (Jvm.Cond.code ({ cls := "com/example/strict_tariff/stricttariff/pricing/RefusedReadingMessagePinLaw", name := "pow10", desc := "(I)J" } : Jvm.MethodName) method_2_code (2 : Nat) (Option.some Jvm.ClassFile.FieldType.long)).before args0 about1 = true := code_word (m := ⟨1, 1⟩) (meth := k1m1) (c := k1c1) (by decide +kernel) rfl rfl rfl (by decide +kernel)
set_option maxRecDepth 65536 in
theorem w_c40 : (Jvm.Cond.code ({ cls := "java/lang/AbstractStringBuilder", name := "newCapacity", desc := "(I)I" } : Jvm.MethodName) jdk_68_method_10_code (6 : Nat) (Option.some Jvm.ClassFile.FieldType.int)).before args0 about1 = true := code_word (m := ⟨11, 4⟩) (meth := k11m4) (c := k11c4) (by decide +kernel) rfl rfl rfl (by decide +kernel)
set_option maxRecDepth 65536 in
theorem w_c41 : (Jvm.Cond.code ({ cls := "jdk/internal/util/ArraysSupport", name := "newLength", desc := "(III)I" } : Jvm.MethodName) jdk_48_method_27_code (4 : Nat) (Option.some Jvm.ClassFile.FieldType.int)).before args0 about1 = true := code_word (m := ⟨21, 1⟩) (meth := k21m1) (c := k21c1) (by decide +kernel) rfl rfl rfl (by decide +kernel)
set_option maxRecDepth 65536 in
theorem w_c42 : (Jvm.Cond.code ({ cls := "java/lang/Math", name := "max", desc := "(II)I" } : Jvm.MethodName) jdk_29_method_65_code (2 : Nat) (Option.some Jvm.ClassFile.FieldType.int)).before args0 about1 = true := code_word (m := ⟨18, 1⟩) (meth := k18m1) (c := k18c1) (by decide +kernel) rfl rfl rfl (by decide +kernel)
set_option maxRecDepth 65536 in
theorem w_c43 : (Jvm.Cond.code ({ cls := "java/util/Arrays", name := "copyOf", desc := "([BI)[B" } : Jvm.MethodName) jdk_65_method_121_code (3 : Nat) (Option.some (Jvm.ClassFile.FieldType.array Jvm.ClassFile.FieldType.byte))).before args0 about1 = true := code_word (m := ⟨17, 1⟩) (meth := k17m1) (c := k17c1) (by decide +kernel) rfl rfl rfl (by decide +kernel)
def codes1 : List Jvm.Cond := [Jvm.Cond.code x code maxLocals ret, Jvm.Cond.code ({ cls := "java/lang/String", name := "<init>", desc := "([C)V" } : Jvm.MethodName) jdk_42_method_3_code (2 : Nat) (Option.none : Option Jvm.ClassFile.FieldType), Jvm.Cond.code ({ cls := "java/lang/String", name := "<init>", desc := "([CIILjava/lang/Void;)V" } : Jvm.MethodName) jdk_42_method_149_code (6 : Nat) (Option.none : Option Jvm.ClassFile.FieldType), Jvm.Cond.code ({ cls := "java/lang/Object", name := "<init>", desc := "()V" } : Jvm.MethodName) object_method_1_code (1 : Nat) (Option.none : Option Jvm.ClassFile.FieldType), Jvm.Cond.code ({ cls := "java/lang/StringUTF16", name := "compress", desc := "([CII)[B" } : Jvm.MethodName) jdk_52_method_16_code (6 : Nat) (Option.some (Jvm.ClassFile.FieldType.array Jvm.ClassFile.FieldType.byte)), Jvm.Cond.code ({ cls := "java/lang/StringUTF16", name := "compress", desc := "([CI[BII)I" } : Jvm.MethodName) jdk_52_method_21_code (7 : Nat) (Option.some Jvm.ClassFile.FieldType.int), Jvm.Cond.code ({ cls := "java/lang/StringUTF16", name := "coderFromArrayLen", desc := "([BI)B" } : Jvm.MethodName) jdk_52_method_15_code (2 : Nat) (Option.some Jvm.ClassFile.FieldType.byte), Jvm.Cond.code ({ cls := "com/example/strict_tariff/stricttariff/pricing/RefusedReading", name := "<init>", desc := "(JLjava/lang/String;)V" } : Jvm.MethodName) prog_14_method_1_code (4 : Nat) (Option.none : Option Jvm.ClassFile.FieldType), Jvm.Cond.code ({ cls := "com/example/strict_tariff/stricttariff/pricing/RefusedReading", name := "message", desc := "()Ljava/lang/String;" } : Jvm.MethodName) prog_14_method_4_code (1 : Nat) (Option.some (Jvm.ClassFile.FieldType.object "java/lang/String")), Jvm.Cond.code ({ cls := "java/lang/StringBuilder", name := "<init>", desc := "()V" } : Jvm.MethodName) jdk_67_method_1_code (1 : Nat) (Option.none : Option Jvm.ClassFile.FieldType), Jvm.Cond.code ({ cls := "java/lang/AbstractStringBuilder", name := "<init>", desc := "(I)V" } : Jvm.MethodName) jdk_68_method_2_code (2 : Nat) (Option.none : Option Jvm.ClassFile.FieldType), Jvm.Cond.code ({ cls := "java/lang/StringBuilder", name := "append", desc := "(Ljava/lang/String;)Ljava/lang/StringBuilder;" } : Jvm.MethodName) jdk_67_method_7_code (2 : Nat) (Option.some (Jvm.ClassFile.FieldType.object "java/lang/StringBuilder")), Jvm.Cond.code ({ cls := "java/lang/AbstractStringBuilder", name := "append", desc := "(Ljava/lang/String;)Ljava/lang/AbstractStringBuilder;" } : Jvm.MethodName) jdk_68_method_22_code (3 : Nat) (Option.some (Jvm.ClassFile.FieldType.object "java/lang/AbstractStringBuilder")), Jvm.Cond.code ({ cls := "java/lang/String", name := "length", desc := "()I" } : Jvm.MethodName) jdk_42_method_54_code (1 : Nat) (Option.some Jvm.ClassFile.FieldType.int), Jvm.Cond.code ({ cls := "java/lang/String", name := "coder", desc := "()B" } : Jvm.MethodName) jdk_42_method_152_code (1 : Nat) (Option.some Jvm.ClassFile.FieldType.byte), Jvm.Cond.code ({ cls := "java/lang/AbstractStringBuilder", name := "ensureCapacityInternal", desc := "(I)V" } : Jvm.MethodName) jdk_68_method_9_code (3 : Nat) (Option.none : Option Jvm.ClassFile.FieldType), Jvm.Cond.code ({ cls := "java/lang/AbstractStringBuilder", name := "putStringAt", desc := "(ILjava/lang/String;)V" } : Jvm.MethodName) jdk_68_method_73_code (3 : Nat) (Option.none : Option Jvm.ClassFile.FieldType), Jvm.Cond.code ({ cls := "java/lang/AbstractStringBuilder", name := "inflateIfNeededFor", desc := "(Ljava/lang/String;)V" } : Jvm.MethodName) jdk_68_method_71_code (2 : Nat) (Option.none : Option Jvm.ClassFile.FieldType), Jvm.Cond.code ({ cls := "java/lang/String", name := "getBytes", desc := "([BIB)V" } : Jvm.MethodName) jdk_42_method_147_code (4 : Nat) (Option.none : Option Jvm.ClassFile.FieldType), Jvm.Cond.code ({ cls := "java/lang/StringBuilder", name := "append", desc := "(J)Ljava/lang/StringBuilder;" } : Jvm.MethodName) jdk_67_method_16_code (3 : Nat) (Option.some (Jvm.ClassFile.FieldType.object "java/lang/StringBuilder")), Jvm.Cond.code ({ cls := "java/lang/AbstractStringBuilder", name := "append", desc := "(J)Ljava/lang/AbstractStringBuilder;" } : Jvm.MethodName) jdk_68_method_33_code (5 : Nat) (Option.some (Jvm.ClassFile.FieldType.object "java/lang/AbstractStringBuilder")), Jvm.Cond.code ({ cls := "java/lang/Long", name := "stringSize", desc := "(J)I" } : Jvm.MethodName) jdk_35_method_15_code (6 : Nat) (Option.some Jvm.ClassFile.FieldType.int), Jvm.Cond.code ({ cls := "java/lang/AbstractStringBuilder", name := "isLatin1", desc := "()Z" } : Jvm.MethodName) jdk_68_method_68_code (1 : Nat) (Option.some Jvm.ClassFile.FieldType.boolean), Jvm.Cond.code ({ cls := "java/lang/Long", name := "getChars", desc := "(JI[B)I" } : Jvm.MethodName) jdk_35_method_14_code (11 : Nat) (Option.some Jvm.ClassFile.FieldType.int), Jvm.Cond.code ({ cls := "java/lang/StringBuilder", name := "toString", desc := "()Ljava/lang/String;" } : Jvm.MethodName) jdk_67_method_42_code (1 : Nat) (Option.some (Jvm.ClassFile.FieldType.object "java/lang/String")), Jvm.Cond.code ({ cls := "java/lang/String", name := "<init>", desc := "(Ljava/lang/StringBuilder;)V" } : Jvm.MethodName) jdk_42_method_53_code (2 : Nat) (Option.none : Option Jvm.ClassFile.FieldType), Jvm.Cond.code ({ cls := "java/lang/String", name := "<init>", desc := "(Ljava/lang/AbstractStringBuilder;Ljava/lang/Void;)V" } : Jvm.MethodName) jdk_42_method_150_code (5 : Nat) (Option.none : Option Jvm.ClassFile.FieldType), Jvm.Cond.code ({ cls := "java/lang/AbstractStringBuilder", name := "getValue", desc := "()[B" } : Jvm.MethodName) jdk_68_method_64_code (1 : Nat) (Option.some (Jvm.ClassFile.FieldType.array Jvm.ClassFile.FieldType.byte)), Jvm.Cond.code ({ cls := "java/lang/StringBuilder", name := "length", desc := "()I" } : Jvm.MethodName) jdk_67_method_93_code (1 : Nat) (Option.some Jvm.ClassFile.FieldType.int), Jvm.Cond.code ({ cls := "java/lang/AbstractStringBuilder", name := "length", desc := "()I" } : Jvm.MethodName) jdk_68_method_6_code (1 : Nat) (Option.some Jvm.ClassFile.FieldType.int), Jvm.Cond.code ({ cls := "java/util/Arrays", name := "copyOfRange", desc := "([BII)[B" } : Jvm.MethodName) jdk_65_method_132_code (3 : Nat) (Option.some (Jvm.ClassFile.FieldType.array Jvm.ClassFile.FieldType.byte)), Jvm.Cond.code ({ cls := "java/util/Arrays", name := "copyOfRangeByte", desc := "([BII)[B" } : Jvm.MethodName) jdk_65_method_133_code (5 : Nat) (Option.some (Jvm.ClassFile.FieldType.array Jvm.ClassFile.FieldType.byte)), Jvm.Cond.code ({ cls := "java/util/Arrays", name := "checkLength", desc := "(II)V" } : Jvm.MethodName) jdk_65_method_131_code (2 : Nat) (Option.none : Option Jvm.ClassFile.FieldType), Jvm.Cond.code ({ cls := "java/lang/Math", name := "min", desc := "(II)I" } : Jvm.MethodName) jdk_29_method_69_code (2 : Nat) (Option.some Jvm.ClassFile.FieldType.int), Jvm.Cond.code ({ cls := "java/lang/String", name := "charAt", desc := "(I)C" } : Jvm.MethodName) jdk_42_method_56_code (2 : Nat) (Option.some Jvm.ClassFile.FieldType.char), Jvm.Cond.code ({ cls := "java/lang/String", name := "isLatin1", desc := "()Z" } : Jvm.MethodName) jdk_42_method_154_code (1 : Nat) (Option.some Jvm.ClassFile.FieldType.boolean), Jvm.Cond.code ({ cls := "java/lang/StringLatin1", name := "charAt", desc := "([BI)C" } : Jvm.MethodName) jdk_43_method_2_code (2 : Nat) (Option.some Jvm.ClassFile.FieldType.char), Jvm.Cond.code ({ cls := "java/lang/String", name := "checkIndex", desc := "(II)V" } : Jvm.MethodName) jdk_42_method_155_code (2 : Nat) (Option.none : Option Jvm.ClassFile.FieldType), Jvm.Cond.code ({ cls := "jdk/internal/util/Preconditions", name := "checkIndex", desc := "(IILjava/util/function/BiFunction;)I" } : Jvm.MethodName) jdk_41_method_11_code (3 : Nat) (Option.some Jvm.ClassFile.FieldType.int), Jvm.Cond.code ({ cls := "com/example/strict_tariff/stricttariff/pricing/RefusedReadingMessagePinLaw", name := "pow10", desc := "(I)J" } : Jvm.MethodName) method_2_code (2 : Nat) (Option.some Jvm.ClassFile.FieldType.long), Jvm.Cond.code ({ cls := "java/lang/AbstractStringBuilder", name := "newCapacity", desc := "(I)I" } : Jvm.MethodName) jdk_68_method_10_code (6 : Nat) (Option.some Jvm.ClassFile.FieldType.int), Jvm.Cond.code ({ cls := "jdk/internal/util/ArraysSupport", name := "newLength", desc := "(III)I" } : Jvm.MethodName) jdk_48_method_27_code (4 : Nat) (Option.some Jvm.ClassFile.FieldType.int), Jvm.Cond.code ({ cls := "java/lang/Math", name := "max", desc := "(II)I" } : Jvm.MethodName) jdk_29_method_65_code (2 : Nat) (Option.some Jvm.ClassFile.FieldType.int), Jvm.Cond.code ({ cls := "java/util/Arrays", name := "copyOf", desc := "([BI)[B" } : Jvm.MethodName) jdk_65_method_121_code (3 : Nat) (Option.some (Jvm.ClassFile.FieldType.array Jvm.ClassFile.FieldType.byte))]
set_option maxRecDepth 65536 in
theorem codes_eq : words1.filter isCode = codes1 := rfl
theorem w_codes : ∀ c ∈ words1.filter isCode, c.before args0 about1 = true := by
  rw [codes_eq]
  intro c hc
  simp only [codes1, List.mem_cons, List.not_mem_nil, or_false] at hc
  rcases hc with rfl | rfl | rfl | rfl | rfl | rfl | rfl | rfl | rfl | rfl | rfl | rfl | rfl | rfl | rfl | rfl | rfl | rfl | rfl | rfl | rfl | rfl | rfl | rfl | rfl | rfl | rfl | rfl | rfl | rfl | rfl | rfl | rfl | rfl | rfl | rfl | rfl | rfl | rfl | rfl | rfl | rfl | rfl | rfl
  · exact w_c0
  · exact w_c1
  · exact w_c2
  · exact w_c3
  · exact w_c4
  · exact w_c5
  · exact w_c6
  · exact w_c7
  · exact w_c8
  · exact w_c9
  · exact w_c10
  · exact w_c11
  · exact w_c12
  · exact w_c13
  · exact w_c14
  · exact w_c15
  · exact w_c16
  · exact w_c17
  · exact w_c18
  · exact w_c19
  · exact w_c20
  · exact w_c21
  · exact w_c22
  · exact w_c23
  · exact w_c24
  · exact w_c25
  · exact w_c26
  · exact w_c27
  · exact w_c28
  · exact w_c29
  · exact w_c30
  · exact w_c31
  · exact w_c32
  · exact w_c33
  · exact w_c34
  · exact w_c35
  · exact w_c36
  · exact w_c37
  · exact w_c38
  · exact w_c39
  · exact w_c40
  · exact w_c41
  · exact w_c42
  · exact w_c43
set_option maxRecDepth 65536 in
theorem w_t1 : (words1.take 24).all (fun c => isCode c || c.before args0 about1) = true := by decide +kernel
set_option maxRecDepth 65536 in
theorem w_t2 : ((words1.drop 24).take 24).all (fun c => isCode c || c.before args0 about1) = true := by decide +kernel
set_option maxRecDepth 65536 in
theorem w_t3 : (((words1.drop 24).drop 24).take 24).all (fun c => isCode c || c.before args0 about1) = true := by decide +kernel
set_option maxRecDepth 65536 in
theorem w_t4 : ((((words1.drop 24).drop 24).drop 24).take 24).all (fun c => isCode c || c.before args0 about1) = true := by decide +kernel
set_option maxRecDepth 65536 in
theorem w_t5 : (((((words1.drop 24).drop 24).drop 24).drop 24).take 24).all (fun c => isCode c || c.before args0 about1) = true := by decide +kernel
set_option maxRecDepth 65536 in
theorem w_t6 : ((((((words1.drop 24).drop 24).drop 24).drop 24).drop 24).take 24).all (fun c => isCode c || c.before args0 about1) = true := by decide +kernel
set_option maxRecDepth 65536 in
theorem w_t7 : (((((((words1.drop 24).drop 24).drop 24).drop 24).drop 24).drop 24).take 24).all (fun c => isCode c || c.before args0 about1) = true := by decide +kernel
set_option maxRecDepth 65536 in
theorem w_t8 : ((((((((words1.drop 24).drop 24).drop 24).drop 24).drop 24).drop 24).drop 24).take 24).all (fun c => isCode c || c.before args0 about1) = true := by decide +kernel
set_option maxRecDepth 65536 in
theorem w_t9 : (((((((((words1.drop 24).drop 24).drop 24).drop 24).drop 24).drop 24).drop 24).drop 24).take 24).all (fun c => isCode c || c.before args0 about1) = true := by decide +kernel
set_option maxRecDepth 65536 in
theorem w_t10 : ((((((((((words1.drop 24).drop 24).drop 24).drop 24).drop 24).drop 24).drop 24).drop 24).drop 24).take 24).all (fun c => isCode c || c.before args0 about1) = true := by decide +kernel
set_option maxRecDepth 65536 in
theorem w_t11 : ((((((((((words1.drop 24).drop 24).drop 24).drop 24).drop 24).drop 24).drop 24).drop 24).drop 24).drop 24).all (fun c => isCode c || c.before args0 about1) = true := by decide +kernel
theorem w_tables : (allAtoms (Jvm.Cond.code x code maxLocals ret :: tables_1)).before args0 about1 = true := by
  rw [allAtoms_all]
  show words1.all (fun c => c.before args0 about1) = true
  refine all_split ?_ w_codes
  rw [← List.take_append_drop 24 words1, List.all_append, w_t1, ← List.take_append_drop 24 (words1.drop 24), List.all_append, w_t2, ← List.take_append_drop 24 ((words1.drop 24).drop 24), List.all_append, w_t3, ← List.take_append_drop 24 (((words1.drop 24).drop 24).drop 24), List.all_append, w_t4, ← List.take_append_drop 24 ((((words1.drop 24).drop 24).drop 24).drop 24), List.all_append, w_t5, ← List.take_append_drop 24 (((((words1.drop 24).drop 24).drop 24).drop 24).drop 24), List.all_append, w_t6, ← List.take_append_drop 24 ((((((words1.drop 24).drop 24).drop 24).drop 24).drop 24).drop 24), List.all_append, w_t7, ← List.take_append_drop 24 (((((((words1.drop 24).drop 24).drop 24).drop 24).drop 24).drop 24).drop 24), List.all_append, w_t8, ← List.take_append_drop 24 ((((((((words1.drop 24).drop 24).drop 24).drop 24).drop 24).drop 24).drop 24).drop 24), List.all_append, w_t9, ← List.take_append_drop 24 (((((((((words1.drop 24).drop 24).drop 24).drop 24).drop 24).drop 24).drop 24).drop 24).drop 24), List.all_append, w_t10, w_t11]
  rfl
set_option maxRecDepth 65536 in
theorem w_rest : rest_1_c.before args0 about1 = true := by decide +kernel
set_option maxRecDepth 65536 in
theorem w_case : (Jvm.Cond.and given_1 narrow_1).before args0 about1 = true := by decide +kernel
set_option maxRecDepth 65536 in
theorem w_consts : constsHeld consts_1 about1 := Jvm.Lit.constsHeldB_iff.mp (by decide +kernel)
theorem w_applies : (headSpec (Jvm.Cond.code x code maxLocals ret :: tables_1) room_1).applies x e0.platform about1 = true :=
  (Spec.applies_iff w_frames).mpr ⟨w_running, w_runnable, w_alone, w_named, w_hears, w_ripe, w_room, w_tables⟩
theorem atStart : AtStart classFile x code maxLocals ret World_1 tables_1 room_1 Calls_1 rest_1 Pre_1 launch0 p0 e0 about1 theMethod args0 below0 :=
  ⟨lists_1, trivial, launch0.admits_env _ _ _, launch0.least_env, fairChoices_fair.cas, fairChoices_fair.clock, w_frames, w_args, w_heap, w_applies, ⟨w_consts, trivial⟩, w_rest, w_case⟩
end start1
theorem witness_1 : WitnessClaimed_1 := ⟨start1.p0, start1.e0, start1.about1, start1.theMethod, start1.args0, start1.below0, start1.atStart⟩
end Jvm.Pilot.@@N@@
