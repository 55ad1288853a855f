import JvmDerived
import JvmDerived.Pilot.@@N@@Statement
import JvmDerived.Pilot.@@N@@Code
set_option linter.unusedVariables false
set_option linter.unusedSimpArgs false
namespace Jvm.RoadKit
open Sem ClassFile Op Lib Jvm.Stand Jvm.Free Jvm.LawKit
section Own
variable {p : Program} {l : Launch} {e : Env} {R : Room} {s : State} {m : MethodId} {args : Array Value} {below : List Frame} {meth : Method} {c : Code} {T : State} {locs : List Loc} {cells slots : Nat}
/-- from S the run comes to an end of which K holds -/
def own_Go (p : Program) (e : Env) (below : List Frame) (K : State → Outcome → Prop) (S : State) : Prop := ∃ t o, Steps p.tables e below S t ∧ t.status = .running ∧ Ended t below o ∧ K t o
def own_K (s : State) (Q : Option Value → Heap → List Loc → Prop) (k n : Nat) (t : State) (o : Outcome) : Prop := ∃ v L, o = .returned v ∧ Q v t.heap L ∧ FrameEnd s o t L k n
theorem own_go {K : State → Outcome → Prop} {S S' : State} (h : ∀ t, Steps p.tables e below S' t → Steps p.tables e below S t) (g : own_Go p e below K S') : own_Go p e below K S := by
  obtain ⟨t, o, h1, h2⟩ := g; exact ⟨t, o, h t h1, h2⟩
theorem own_via {K : State → Outcome → Prop} {S S' : State} (h : Steps p.tables e below S S') (g : own_Go p e below K S') : own_Go p e below K S := by
  obtain ⟨t, o, h1, h2⟩ := g; exact ⟨t, o, h.trans h1, h2⟩
variable {Q : Option Value → Heap → List Loc → Prop} {k n : Nat}
theorem own_end (X : Stand p l e R s m args below meth c T locs cells slots) {v : Option Value} (hlk : meth.locks = false) (hv : meth.sig.returnType = none → v = none) (hk : cells ≤ k) (hn : slots ≤ n) (hQ : Q v T.heap locs) {S : State}
    (st : ∀ fs, (∀ (f : JFrame) (acts : List Action), f.method = m → f.locked = none → f.entered = [] → (doReturn e (T.setTop f) acts v).1 = T.setFrames fs) → Steps p.tables e below S (T.setFrames fs)) : own_Go p e below (own_K s Q k n) S := by
  obtain ⟨fs, hr, hrun, hended, hW, hsame⟩ := X.leave hv hlk
  exact ⟨_, _, st fs hr, hrun, hended, v, locs, rfl, hQ, ⟨_, rfl⟩, hW, hsame.mono hk hn⟩
theorem own_ret0 (X : Stand p l e R s m args below meth c T locs cells slots) (hx : p.tables.exec = Jvm.exec) (hlk : meth.locks = false) (hret : meth.sig.returnType = none) {pc : Nat} {Ls : Array Slot} (hd : decode c.code pc = .ok (.return_, 1)) (hk : cells ≤ k) (hn : slots ≤ n) (hQ : Q none T.heap locs) :
    own_Go p e below (own_K s Q k n) (T.setTop (mkF m pc Ls [])) := own_end X hlk (fun _ => rfl) hk hn hQ fun _ hr => X.returnOut hx hret hd hr
theorem own_retN (X : Stand p l e R s m args below meth c T locs cells slots) (hx : p.tables.exec = Jvm.exec) (hlk : meth.locks = false) {t : FieldType} (hret : meth.sig.returnType = some t) (ht : t = .boolean ∨ t = .byte ∨ t = .char ∨ t = .short) {pc : Nat} {Ls : Array Slot} {z : Int32} {rest : List Value} (hd : decode c.code pc = .ok (.ireturn, 1)) (hk : cells ≤ k) (hn : slots ≤ n) (hQ : Q (some (.int (nar t z))) T.heap locs) :
    own_Go p e below (own_K s Q k n) (T.setTop (mkF m pc Ls (.int z :: rest))) := own_end X hlk (fun h => by rw [hret] at h; cases h) hk hn hQ fun _ hr => retN X hx hret ht hd hr
theorem own_retI (X : Stand p l e R s m args below meth c T locs cells slots) (hx : p.tables.exec = Jvm.exec) (hlk : meth.locks = false) (hret : meth.sig.returnType = some .int) {pc : Nat} {Ls : Array Slot} {z : Int32} {rest : List Value} (hd : decode c.code pc = .ok (.ireturn, 1)) (hk : cells ≤ k) (hn : slots ≤ n) (hQ : Q (some (.int z)) T.heap locs) :
    own_Go p e below (own_K s Q k n) (T.setTop (mkF m pc Ls (.int z :: rest))) := own_end X hlk (fun h => by rw [hret] at h; cases h) hk hn hQ fun _ hr => retOut X hx hret rfl (Or.inl ⟨rfl, Or.inl rfl, z, rfl⟩) hd hr
theorem own_retJ (X : Stand p l e R s m args below meth c T locs cells slots) (hx : p.tables.exec = Jvm.exec) (hlk : meth.locks = false) (hret : meth.sig.returnType = some .long) {pc : Nat} {Ls : Array Slot} {z : Int64} {rest : List Value} (hd : decode c.code pc = .ok (.lreturn, 1)) (hk : cells ≤ k) (hn : slots ≤ n) (hQ : Q (some (.long z)) T.heap locs) :
    own_Go p e below (own_K s Q k n) (T.setTop (mkF m pc Ls (.long z :: rest))) := own_end X hlk (fun h => by rw [hret] at h; cases h) hk hn hQ fun _ hr => retOut X hx hret rfl (Or.inr (Or.inl ⟨rfl, rfl, z, rfl⟩)) hd hr
theorem own_retR (X : Stand p l e R s m args below meth c T locs cells slots) (hx : p.tables.exec = Jvm.exec) (hlk : meth.locks = false) {t : FieldType} (hret : meth.sig.returnType = some t) (ht : t.isReference = true) {pc : Nat} {Ls : Array Slot} {w : Value} {rest : List Value} (hw : w.isRef = true) (hd : decode c.code pc = .ok (.areturn, 1)) (hk : cells ≤ k) (hn : slots ≤ n) (hQ : Q (some w) T.heap locs) :
    own_Go p e below (own_K s Q k n) (T.setTop (mkF m pc Ls (w :: rest))) := own_end X hlk (fun h => by rw [hret] at h; cases h) hk hn hQ fun _ hr => retOut X hx hret (by cases t <;> first | rfl | cases ht) (Or.inr (Or.inr (Or.inr (Or.inr ⟨rfl, ht, hw⟩)))) hd hr
section Arrays
variable {Z : State} {h : Heap} {a : Addr} {k : ClassId} {ty : FieldType} {z : Int32} {vs : List Value} {dv : Value}
theorem own_iaload (X : Stand p l e R s m args below meth c T locs cells slots) (hx : p.tables.exec = Jvm.exec) (hZ : Z.Warmed39 s.vm) (eT : T.heap = h) (F : Arv Z h a k .int z vs dv) (j : Int32) (v : Value) (hj : ¬ j < 0 ∧ j < z) (hat : vs.getD j.toNatClampNeg dv = v) {g : JFrame} (hg : g.method = m) {rest : List Value} (hs : g.stack = .int j :: .ref a :: rest) (hd : decode c.code g.pc = .ok (.iaload, 1)) {target : State}
    (hr : Steps p.tables e below (T.setTop { g with pc := g.pc + 1, stack := v :: rest }) target) : Steps p.tables e below (T.setTop g) target := by
  obtain ⟨cl, A, q, S, N, H, G⟩ := F
  have hi := inb_of S hj
  exact X.iaload hx (j := j) (v := v) (by rw [eT]; exact A.1) (State.isArrayOf_alike hZ.alike A.2.1) A.2.2 hi (Has.at H hi hat) hg hs hd _ hr
theorem own_caload (X : Stand p l e R s m args below meth c T locs cells slots) (hx : p.tables.exec = Jvm.exec) (hZ : Z.Warmed39 s.vm) (eT : T.heap = h) (F : Arv Z h a k .char z vs dv) (j : Int32) (v : Value) (hj : ¬ j < 0 ∧ j < z) (hat : vs.getD j.toNatClampNeg dv = v) {g : JFrame} (hg : g.method = m) {rest : List Value} (hs : g.stack = .int j :: .ref a :: rest) (hd : decode c.code g.pc = .ok (.caload, 1)) {target : State}
    (hr : Steps p.tables e below (T.setTop { g with pc := g.pc + 1, stack := v :: rest }) target) : Steps p.tables e below (T.setTop g) target := by
  obtain ⟨cl, A, q, S, N, H, G⟩ := F
  have hi := inb_of S hj
  exact X.caload hx (j := j) (v := v) (by rw [eT]; exact A.1) (State.isArrayOf_alike hZ.alike A.2.1) A.2.2 hi (Has.at H hi hat) hg hs hd _ hr
theorem own_saload (X : Stand p l e R s m args below meth c T locs cells slots) (hx : p.tables.exec = Jvm.exec) (hZ : Z.Warmed39 s.vm) (eT : T.heap = h) (F : Arv Z h a k .short z vs dv) (j : Int32) (v : Value) (hj : ¬ j < 0 ∧ j < z) (hat : vs.getD j.toNatClampNeg dv = v) {g : JFrame} (hg : g.method = m) {rest : List Value} (hs : g.stack = .int j :: .ref a :: rest) (hd : decode c.code g.pc = .ok (.saload, 1)) {target : State}
    (hr : Steps p.tables e below (T.setTop { g with pc := g.pc + 1, stack := v :: rest }) target) : Steps p.tables e below (T.setTop g) target := by
  obtain ⟨cl, A, q, S, N, H, G⟩ := F
  have hi := inb_of S hj
  exact X.saload hx (j := j) (v := v) (by rw [eT]; exact A.1) (State.isArrayOf_alike hZ.alike A.2.1) A.2.2 hi (Has.at H hi hat) hg hs hd _ hr
theorem own_baload (X : Stand p l e R s m args below meth c T locs cells slots) (hx : p.tables.exec = Jvm.exec) (hZ : Z.Warmed39 s.vm) (eT : T.heap = h) (F : Arv Z h a k .byte z vs dv) (j : Int32) (v : Value) (hj : ¬ j < 0 ∧ j < z) (hat : vs.getD j.toNatClampNeg dv = v) {g : JFrame} (hg : g.method = m) {rest : List Value} (hs : g.stack = .int j :: .ref a :: rest) (hd : decode c.code g.pc = .ok (.baload, 1)) {target : State}
    (hr : Steps p.tables e below (T.setTop { g with pc := g.pc + 1, stack := v :: rest }) target) : Steps p.tables e below (T.setTop g) target := by
  obtain ⟨cl, A, q, S, N, H, G⟩ := F
  have hi := inb_of S hj
  exact X.baloadBytes hx (j := j) (v := v) (by rw [eT]; exact A.1) (State.isArrayOf_alike hZ.alike A.2.1) A.2.2 hi (Has.at H hi hat) hg hs hd _ hr
theorem own_zaload (X : Stand p l e R s m args below meth c T locs cells slots) (hx : p.tables.exec = Jvm.exec) (hZ : Z.Warmed39 s.vm) (eT : T.heap = h) (F : Arv Z h a k .boolean z vs dv) (j : Int32) (v : Value) (hj : ¬ j < 0 ∧ j < z) (hat : vs.getD j.toNatClampNeg dv = v) {g : JFrame} (hg : g.method = m) {rest : List Value} (hs : g.stack = .int j :: .ref a :: rest) (hd : decode c.code g.pc = .ok (.baload, 1)) {target : State}
    (hr : Steps p.tables e below (T.setTop { g with pc := g.pc + 1, stack := v :: rest }) target) : Steps p.tables e below (T.setTop g) target := by
  obtain ⟨cl, A, q, S, N, H, G⟩ := F
  have hi := inb_of S hj
  exact X.baloadBooleans hx (j := j) (v := v) (by rw [eT]; exact A.1) (State.isArrayOf_alike hZ.alike A.2.1) A.2.2 hi (Has.at H hi hat) hg hs hd _ hr
theorem own_laload (X : Stand p l e R s m args below meth c T locs cells slots) (hx : p.tables.exec = Jvm.exec) (hZ : Z.Warmed39 s.vm) (eT : T.heap = h) (F : Arv Z h a k .long z vs dv) (j : Int32) (v : Value) (hj : ¬ j < 0 ∧ j < z) (hat : vs.getD j.toNatClampNeg dv = v) {g : JFrame} (hg : g.method = m) {rest : List Value} (hs : g.stack = .int j :: .ref a :: rest) (hd : decode c.code g.pc = .ok (.laload, 1)) {target : State}
    (hr : Steps p.tables e below (T.setTop { g with pc := g.pc + 1, stack := v :: rest }) target) : Steps p.tables e below (T.setTop g) target := by
  obtain ⟨cl, A, q, S, N, H, G⟩ := F
  have hi := inb_of S hj
  exact X.laload hx (j := j) (v := v) (by rw [eT]; exact A.1) (State.isArrayOf_alike hZ.alike A.2.1) A.2.2 hi (Has.at H hi hat) hg hs hd _ hr
theorem own_aaload (X : Stand p l e R s m args below meth c T locs cells slots) (hx : p.tables.exec = Jvm.exec) (hZ : Z.Warmed39 s.vm) (eT : T.heap = h) (F : Arv Z h a k ty z vs dv) (j : Int32) (v : Value) (hj : ¬ j < 0 ∧ j < z) (hat : vs.getD j.toNatClampNeg dv = v) (hty : ty.isReference = true) {g : JFrame} (hg : g.method = m) {rest : List Value} (hs : g.stack = .int j :: .ref a :: rest) (hd : decode c.code g.pc = .ok (.aaload, 1)) {target : State}
    (hr : Steps p.tables e below (T.setTop { g with pc := g.pc + 1, stack := v :: rest }) target) : Steps p.tables e below (T.setTop g) target := by
  obtain ⟨cl, A, q, S, N, H, G⟩ := F
  have hi := inb_of S hj
  exact X.aaload hx (j := j) (v := v) (by rw [eT]; exact A.1) (State.isArrayOf_alike hZ.alike A.2.1) hty A.2.2 hi (Has.at H hi hat) hg hs hd _ hr
theorem own_alen (X : Stand p l e R s m args below meth c T locs cells slots) (hx : p.tables.exec = Jvm.exec) (hZ : Z.Warmed39 s.vm) (eT : T.heap = h) (F : Arv Z h a k ty z vs dv) {g : JFrame} (hg : g.method = m) {rest : List Value} (hs : g.stack = .ref a :: rest) (hd : decode c.code g.pc = .ok (.arraylength, 1)) {target : State}
    (hr : Steps p.tables e below (T.setTop { g with pc := g.pc + 1, stack := .int z :: rest }) target) : Steps p.tables e below (T.setTop g) target := by
  obtain ⟨cl, A, q, S, N, -, -⟩ := F
  exact X.arraylength hx (by rw [eT]; exact A.1) (State.isArrayOf_alike hZ.alike A.2.1) hg hs hd _ (by rw [len_of S N]; exact hr)
theorem own_stI {K : State → Outcome → Prop} {n0 : Nat} (X : Stand p l e R s m args below meth c T locs cells slots) (hx : p.tables.exec = Jvm.exec) (hZ : Z.Warmed39 s.vm) (eT : T.heap = h) (F : Arv Z h a k .int z vs dv) (j : Int32) (x : Int32) (i : Nat) (hj : ¬ j < 0 ∧ j < z) (hi : j.toNatClampNeg = i) (hl : i < vs.length) (vs' : List Value) (hv : vs.set i (.int x) = vs') (N : Fr n0 locs) (ge : n0 ≤ a) {pc : Nat} {Ls : Array Slot} {rest : List Value} (hd : decode c.code pc = .ok (.iastore, 1))
    (kk : ∀ (T' : State) (h' : Heap) (L' : List Loc), Stand p l e R s m args below meth c T' L' cells slots → T'.heap = h' → Wr h h' a i (.int x) → Fr n0 L' → Arv Z h' a k .int z vs' dv → own_Go p e below K (T'.setTop (mkF m (pc + 1) Ls rest))) : own_Go p e below K (T.setTop (mkF m pc Ls (.int x :: .int j :: .ref a :: rest))) := by
  obtain ⟨cl, A, q, S, M, H, G⟩ := F
  subst hi; subst hv
  obtain ⟨T', h', X', e', W, st⟩ := stI X hx hZ eT A (j := j) (inb_of S hj) (g := mkF m pc Ls (.int x :: .int j :: .ref a :: rest)) rfl rfl hd
  exact own_go st (kk T' h' _ X' e' W (Fr.snoc X' N ge) (Arv.set A q S M H G rfl W _ rfl hl))
theorem own_stJ {K : State → Outcome → Prop} {n0 : Nat} (X : Stand p l e R s m args below meth c T locs cells slots) (hx : p.tables.exec = Jvm.exec) (hZ : Z.Warmed39 s.vm) (eT : T.heap = h) (F : Arv Z h a k .long z vs dv) (j : Int32) (x : Int64) (i : Nat) (hj : ¬ j < 0 ∧ j < z) (hi : j.toNatClampNeg = i) (hl : i < vs.length) (vs' : List Value) (hv : vs.set i (.long x) = vs') (N : Fr n0 locs) (ge : n0 ≤ a) {pc : Nat} {Ls : Array Slot} {rest : List Value} (hd : decode c.code pc = .ok (.lastore, 1))
    (kk : ∀ (T' : State) (h' : Heap) (L' : List Loc), Stand p l e R s m args below meth c T' L' cells slots → T'.heap = h' → Wr h h' a i (.long x) → Fr n0 L' → Arv Z h' a k .long z vs' dv → own_Go p e below K (T'.setTop (mkF m (pc + 1) Ls rest))) : own_Go p e below K (T.setTop (mkF m pc Ls (.long x :: .int j :: .ref a :: rest))) := by
  obtain ⟨cl, A, q, S, M, H, G⟩ := F
  subst hi; subst hv
  obtain ⟨T', h', X', e', W, st⟩ := stJ X hx hZ eT A (j := j) (inb_of S hj) (g := mkF m pc Ls (.long x :: .int j :: .ref a :: rest)) rfl rfl hd
  exact own_go st (kk T' h' _ X' e' W (Fr.snoc X' N ge) (Arv.set A q S M H G rfl W _ rfl hl))
theorem own_stB {K : State → Outcome → Prop} {n0 : Nat} (X : Stand p l e R s m args below meth c T locs cells slots) (hx : p.tables.exec = Jvm.exec) (hZ : Z.Warmed39 s.vm) (eT : T.heap = h) (F : Arv Z h a k .byte z vs dv) (j : Int32) (x x' : Int32) (i : Nat) (hj : ¬ j < 0 ∧ j < z) (hi : j.toNatClampNeg = i) (hl : i < vs.length) (hn : nar .byte x = x') (vs' : List Value) (hv : vs.set i (.int x') = vs') (N : Fr n0 locs) (ge : n0 ≤ a) {pc : Nat} {Ls : Array Slot} {rest : List Value} (hd : decode c.code pc = .ok (.bastore, 1))
    (kk : ∀ (T' : State) (h' : Heap) (L' : List Loc), Stand p l e R s m args below meth c T' L' cells slots → T'.heap = h' → Wr h h' a i (.int x') → Fr n0 L' → Arv Z h' a k .byte z vs' dv → own_Go p e below K (T'.setTop (mkF m (pc + 1) Ls rest))) : own_Go p e below K (T.setTop (mkF m pc Ls (.int x :: .int j :: .ref a :: rest))) := by
  obtain ⟨cl, A, q, S, M, H, G⟩ := F
  subst hn; subst hi; subst hv
  obtain ⟨T', h', X', e', W, st⟩ := stB X hx hZ eT A (j := j) (inb_of S hj) (g := mkF m pc Ls (.int x :: .int j :: .ref a :: rest)) rfl rfl hd
  exact own_go st (kk T' h' _ X' e' W (Fr.snoc X' N ge) (Arv.set A q S M H G (fits_nar_byte _) W _ rfl hl))
theorem own_stZ {K : State → Outcome → Prop} {n0 : Nat} (X : Stand p l e R s m args below meth c T locs cells slots) (hx : p.tables.exec = Jvm.exec) (hZ : Z.Warmed39 s.vm) (eT : T.heap = h) (F : Arv Z h a k .boolean z vs dv) (j : Int32) (x x' : Int32) (i : Nat) (hj : ¬ j < 0 ∧ j < z) (hi : j.toNatClampNeg = i) (hl : i < vs.length) (hn : nar .boolean x = x') (vs' : List Value) (hv : vs.set i (.int x') = vs') (N : Fr n0 locs) (ge : n0 ≤ a) {pc : Nat} {Ls : Array Slot} {rest : List Value} (hd : decode c.code pc = .ok (.bastore, 1))
    (kk : ∀ (T' : State) (h' : Heap) (L' : List Loc), Stand p l e R s m args below meth c T' L' cells slots → T'.heap = h' → Wr h h' a i (.int x') → Fr n0 L' → Arv Z h' a k .boolean z vs' dv → own_Go p e below K (T'.setTop (mkF m (pc + 1) Ls rest))) : own_Go p e below K (T.setTop (mkF m pc Ls (.int x :: .int j :: .ref a :: rest))) := by
  obtain ⟨cl, A, q, S, M, H, G⟩ := F
  subst hn; subst hi; subst hv
  obtain ⟨T', h', X', e', W, st⟩ := stZ X hx hZ eT A (j := j) (inb_of S hj) (g := mkF m pc Ls (.int x :: .int j :: .ref a :: rest)) rfl rfl hd
  exact own_go st (kk T' h' _ X' e' W (Fr.snoc X' N ge) (Arv.set A q S M H G (fits_nar_bool _) W _ rfl hl))
theorem own_stC {K : State → Outcome → Prop} {n0 : Nat} (X : Stand p l e R s m args below meth c T locs cells slots) (hx : p.tables.exec = Jvm.exec) (hZ : Z.Warmed39 s.vm) (eT : T.heap = h) (F : Arv Z h a k .char z vs dv) (j : Int32) (x x' : Int32) (i : Nat) (hj : ¬ j < 0 ∧ j < z) (hi : j.toNatClampNeg = i) (hl : i < vs.length) (hn : nar .char x = x') (vs' : List Value) (hv : vs.set i (.int x') = vs') (N : Fr n0 locs) (ge : n0 ≤ a) {pc : Nat} {Ls : Array Slot} {rest : List Value} (hd : decode c.code pc = .ok (.castore, 1))
    (kk : ∀ (T' : State) (h' : Heap) (L' : List Loc), Stand p l e R s m args below meth c T' L' cells slots → T'.heap = h' → Wr h h' a i (.int x') → Fr n0 L' → Arv Z h' a k .char z vs' dv → own_Go p e below K (T'.setTop (mkF m (pc + 1) Ls rest))) : own_Go p e below K (T.setTop (mkF m pc Ls (.int x :: .int j :: .ref a :: rest))) := by
  obtain ⟨cl, A, q, S, M, H, G⟩ := F
  subst hn; subst hi; subst hv
  obtain ⟨T', h', X', e', W, st⟩ := stC X hx hZ eT A (j := j) (inb_of S hj) (g := mkF m pc Ls (.int x :: .int j :: .ref a :: rest)) rfl rfl hd
  exact own_go st (kk T' h' _ X' e' W (Fr.snoc X' N ge) (Arv.set A q S M H G (fits_nar_char _) W _ rfl hl))
theorem own_stS {K : State → Outcome → Prop} {n0 : Nat} (X : Stand p l e R s m args below meth c T locs cells slots) (hx : p.tables.exec = Jvm.exec) (hZ : Z.Warmed39 s.vm) (eT : T.heap = h) (F : Arv Z h a k .short z vs dv) (j : Int32) (x x' : Int32) (i : Nat) (hj : ¬ j < 0 ∧ j < z) (hi : j.toNatClampNeg = i) (hl : i < vs.length) (hn : nar .short x = x') (vs' : List Value) (hv : vs.set i (.int x') = vs') (N : Fr n0 locs) (ge : n0 ≤ a) {pc : Nat} {Ls : Array Slot} {rest : List Value} (hd : decode c.code pc = .ok (.sastore, 1))
    (kk : ∀ (T' : State) (h' : Heap) (L' : List Loc), Stand p l e R s m args below meth c T' L' cells slots → T'.heap = h' → Wr h h' a i (.int x') → Fr n0 L' → Arv Z h' a k .short z vs' dv → own_Go p e below K (T'.setTop (mkF m (pc + 1) Ls rest))) : own_Go p e below K (T.setTop (mkF m pc Ls (.int x :: .int j :: .ref a :: rest))) := by
  obtain ⟨cl, A, q, S, M, H, G⟩ := F
  subst hn; subst hi; subst hv
  obtain ⟨T', h', X', e', W, st⟩ := stS X hx hZ eT A (j := j) (inb_of S hj) (g := mkF m pc Ls (.int x :: .int j :: .ref a :: rest)) rfl rfl hd
  exact own_go st (kk T' h' _ X' e' W (Fr.snoc X' N ge) (Arv.set A q S M H G (fits_nar_short _) W _ rfl hl))
theorem own_stR {K : State → Outcome → Prop} {n0 : Nat} (X : Stand p l e R s m args below meth c T locs cells slots) (hx : p.tables.exec = Jvm.exec) (hZ : Z.Warmed39 s.vm) (eT : T.heap = h) (F : Arv Z h a k ty z vs dv) (j : Int32) (v : Value) (i : Nat) (hj : ¬ j < 0 ∧ j < z) (hi : j.toNatClampNeg = i) (hl : i < vs.length) (sto : ∀ cl : Cell, Arr Z h a cl ty → cl.cls = k → Sto Z h a v) (hty : ty.isReference = true) (vs' : List Value) (hv : vs.set i v = vs') (N : Fr n0 locs) (ge : n0 ≤ a) {pc : Nat} {Ls : Array Slot} {rest : List Value} (hd : decode c.code pc = .ok (.aastore, 1))
    (kk : ∀ (T' : State) (h' : Heap) (L' : List Loc), Stand p l e R s m args below meth c T' L' cells slots → T'.heap = h' → Wr h h' a i v → Fr n0 L' → Arv Z h' a k ty z vs' dv → own_Go p e below K (T'.setTop (mkF m (pc + 1) Ls rest))) : own_Go p e below K (T.setTop (mkF m pc Ls (v :: .int j :: .ref a :: rest))) := by
  obtain ⟨cl, A, q, S, M, H, G⟩ := F
  subst hi; subst hv
  have so := sto cl A q
  obtain ⟨T', h', X', e', W, st⟩ := stR X hx hZ eT A (j := j) (inb_of S hj) hty so (g := mkF m pc Ls (v :: .int j :: .ref a :: rest)) rfl rfl hd
  have fv : fits ty v = true := by
    rcases so with rfl | ⟨_, _, _, _, _, _, _, y, _, _, _, _, rfl, _⟩ <;> cases ty <;> first | rfl | cases hty
  exact own_go st (kk T' h' _ X' e' W (Fr.snoc X' N ge) (Arv.set A q S M H G fv W _ rfl hl))
end Arrays
section Calls
variable {own : String} {index : Nat} {y z : MethodName} {bytes : ByteArray} {maxL : Nat} {ret : Option FieldType} {rm : Room} {W : Nat} {as' : Array Value} {Z : State} {a0 : Array Value} {h : Heap} {K : State → Outcome → Prop} {pc : Nat} {Ls : Array Slot} {argsL rest stk : List Value} {C : String} {b : Addr}
theorem own_cs (X : Stand p l e R s m args below meth c T locs cells slots) (hx : p.tables.exec = Jvm.exec) (hZ : Z.Warmed39 s.vm) (hown : s.vm.findClass own = some m.cls) (w1 : (Cond.methodLink own index y).before a0 Z = true) (w2 : (Cond.static y).before a0 Z = true) (w3 : (Cond.initialized y.cls).before a0 Z = true) (w4 : (Cond.code y bytes maxL ret).before a0 Z = true)
    (hy : y.cls ≠ "java/lang/invoke/MethodHandle" ∧ y.cls ≠ "java/lang/invoke/VarHandle")
    (hM : MetFree l y (head1 [Cond.code y bytes maxL ret] rm) (fun a U => a = as' ∧ Z.Warmed39 U.vm ∧ U.heap = h) (fun _ _ _ _ _ => True) (fun _ U o U' => ∃ v L, o = .returned v ∧ Q v U'.heap L ∧ FrameEnd U o U' L rm.cells rm.slots))
    (hf : rm.frames + 1 ≤ R.frames) (hl : W + (maxL + 11) + rm.locals ≤ R.locals) (hc : cells + rm.cells ≤ R.cells) (hs : slots + rm.slots ≤ R.slots) (eT : T.heap = h) (hsz : Ls.size = c.maxLocals) (hlen : ∀ sig, parseMethodDescriptor y.desc = some sig → argsL.length = sig.parameters.length)
    (hst : stk = argsL.reverse ++ rest) (has : argsL.toArray = as') (hW : (rest.map fun v => v.category).sum ≤ W) (hd : decode c.code pc = .ok (.invokestatic index, 3))
    (k : ∀ (v : Option Value) (T' : State) (L : List Loc), Stand p l e R s m args below meth c T' (locs ++ L) (cells + rm.cells) (slots + rm.slots) → Q v T'.heap L → own_Go p e below K (T'.setTop (mkF m (pc + 3) Ls (v.toList ++ rest)))) : own_Go p e below K (T.setTop (mkF m pc Ls stk)) := by
  obtain ⟨v, _, ⟨T', L', k', n'⟩, -, X', ⟨L, hQ, h1, h2, h3⟩, st⟩ := Jvm.LawKit.callS X hx (y := y) hown (mvT hZ w1) (mvT hZ w2) (mvT hZ w3) (mvT hZ w4) hy (backOf (W := W) hM hZ w4 w3 hf hl) (g := mkF m pc Ls stk) rfl hsz (argsL := argsL) (rest := rest) hlen hst (by show 2 * 0 + _ ≤ _; simpa using hW) hd (fun _ _ => ⟨has, eT, hc, hs⟩)
  dsimp only [Pt.U, Pt.locs, Pt.cells, Pt.slots] at X' h1 h2 h3 st hQ
  subst h1 h2 h3
  exact own_go st (k v T' L X' hQ)
theorem own_cp (X : Stand p l e R s m args below meth c T locs cells slots) (hx : p.tables.exec = Jvm.exec) (hZ : Z.Warmed39 s.vm) (hown : s.vm.findClass own = some m.cls) (hy1 : y.name = "<init>") (w1 : (Cond.methodLink own index y).before a0 Z = true) (w2 : (Cond.instanceMethod y).before a0 Z = true) (w3 : (Cond.initialized y.cls).before a0 Z = true) (w4 : (Cond.code y bytes maxL none).before a0 Z = true)
    (hy : y.cls ≠ "java/lang/invoke/MethodHandle" ∧ y.cls ≠ "java/lang/invoke/VarHandle")
    (hM : MetFree l y (head1 [Cond.code y bytes maxL none] rm) (fun a U => a = as' ∧ Z.Warmed39 U.vm ∧ U.heap = h) (fun _ _ _ _ _ => True) (fun _ U o U' => ∃ v L, o = .returned v ∧ Q v U'.heap L ∧ FrameEnd U o U' L rm.cells rm.slots))
    (hf : rm.frames + 1 ≤ R.frames) (hl : W + (maxL + 11) + rm.locals ≤ R.locals) (hc : cells + rm.cells ≤ R.cells) (hs : slots + rm.slots ≤ R.slots) (eT : T.heap = h) (hsz : Ls.size = c.maxLocals) (hlen : ∀ sig, parseMethodDescriptor y.desc = some sig → argsL.length = sig.parameters.length)
    (hst : stk = argsL.reverse ++ .ref b :: rest) (has : (.ref b :: argsL).toArray = as') (hW : (rest.map fun v => v.category).sum ≤ W) (hd : decode c.code pc = .ok (.invokespecial index, 3))
    (k : ∀ (v : Option Value) (T' : State) (L : List Loc), Stand p l e R s m args below meth c T' (locs ++ L) (cells + rm.cells) (slots + rm.slots) → Q v T'.heap L → own_Go p e below K (T'.setTop (mkF m (pc + 3) Ls (v.toList ++ rest)))) : own_Go p e below K (T.setTop (mkF m pc Ls stk)) := by
  obtain ⟨v, _, ⟨T', L', k', n'⟩, -, X', ⟨L, hQ, h1, h2, h3⟩, st⟩ := X.specialBack hx (y := y) hy1 hown (mvT hZ w1) (mvT hZ w2) (mvT hZ w4) hy (backOf (W := W) hM hZ w4 w3 hf hl) (g := mkF m pc Ls stk) rfl hsz (Steps.refl _) (a := b) (argsL := argsL) (rest := rest) hlen hst (by show 2 * 0 + _ ≤ _; simpa using hW) hd (fun _ _ => ⟨has, eT, hc, hs⟩)
  dsimp only [Pt.U, Pt.locs, Pt.cells, Pt.slots] at X' h1 h2 h3 st hQ
  subst h1 h2 h3
  exact own_via st (k v T' L X' hQ)
theorem own_cv (X : Stand p l e R s m args below meth c T locs cells slots) (hx : p.tables.exec = Jvm.exec) (hZ : Z.Warmed39 s.vm) (hown : s.vm.findClass own = some m.cls) (nf : NotFace s y) (w1 : (Cond.methodLink own index y).before a0 Z = true) (w2 : (Cond.declares y).before a0 Z = true) (w5 : (Cond.selects C y z).before a0 Z = true) (w6 : (Cond.instanceMethod z).before a0 Z = true) (w3 : (Cond.initialized z.cls).before a0 Z = true) (w4 : (Cond.code z bytes maxL ret).before a0 Z = true)
    (hy : y.cls ≠ "java/lang/invoke/MethodHandle" ∧ y.cls ≠ "java/lang/invoke/VarHandle") (E : Exa Z h b C)
    (hM : MetFree l z (head1 [Cond.code z bytes maxL ret] rm) (fun a U => a = as' ∧ Z.Warmed39 U.vm ∧ U.heap = h) (fun _ _ _ _ _ => True) (fun _ U o U' => ∃ v L, o = .returned v ∧ Q v U'.heap L ∧ FrameEnd U o U' L rm.cells rm.slots))
    (hf : rm.frames + 1 ≤ R.frames) (hl : W + (maxL + 11) + rm.locals ≤ R.locals) (hc : cells + rm.cells ≤ R.cells) (hs : slots + rm.slots ≤ R.slots) (eT : T.heap = h) (hsz : Ls.size = c.maxLocals) (hlen : ∀ sig, parseMethodDescriptor y.desc = some sig → argsL.length = sig.parameters.length)
    (hst : stk = argsL.reverse ++ .ref b :: rest) (has : (.ref b :: argsL).toArray = as') (hW : (rest.map fun v => v.category).sum ≤ W) (hd : decode c.code pc = .ok (.invokevirtual index, 3))
    (k : ∀ (v : Option Value) (T' : State) (L : List Loc), Stand p l e R s m args below meth c T' (locs ++ L) (cells + rm.cells) (slots + rm.slots) → Q v T'.heap L → own_Go p e below K (T'.setTop (mkF m (pc + 3) Ls (v.toList ++ rest)))) : own_Go p e below K (T.setTop (mkF m pc Ls stk)) := by
  obtain ⟨cq, kq, qa, qb, qc⟩ := isOf hZ eT E
  obtain ⟨v, _, ⟨T', L', k', n'⟩, -, X', ⟨L, hQ, h1, h2, h3⟩, st⟩ := X.virtualBack hx (y := y) (z := z) hown (mvT hZ w1) (mvT hZ w2) nf (mvT hZ w5) (mvT hZ w6) hy (backOf (W := W) hM hZ w4 w3 hf hl) qa qc (g := mkF m pc Ls stk) rfl hsz (Steps.refl _) (argsL := argsL) (rest := rest) hlen hst (by show 2 * 0 + _ ≤ _; simpa using hW) hd (fun _ _ => ⟨has, eT, hc, hs⟩)
  dsimp only [Pt.U, Pt.locs, Pt.cells, Pt.slots] at X' h1 h2 h3 st hQ
  subst h1 h2 h3
  exact own_via st (k v T' L X' hQ)
theorem own_cq (X : Stand p l e R s m args below meth c T locs cells slots) (hx : p.tables.exec = Jvm.exec) (hZ : Z.Warmed39 s.vm) (hown : s.vm.findClass own = some m.cls) (w1 : (Cond.methodLink own index y).before a0 Z = true) (w6 : (Cond.instanceMethod y).before a0 Z = true) (w5 : (Cond.selects y.cls y y).before a0 Z = true) (w7 : (Cond.privateMethod y).before a0 Z = true) (w3 : (Cond.initialized y.cls).before a0 Z = true) (w4 : (Cond.code y bytes maxL ret).before a0 Z = true)
    (hy : y.cls ≠ "java/lang/invoke/MethodHandle" ∧ y.cls ≠ "java/lang/invoke/VarHandle") (E : Exa Z h b C)
    (hM : MetFree l y (head1 [Cond.code y bytes maxL ret] rm) (fun a U => a = as' ∧ Z.Warmed39 U.vm ∧ U.heap = h) (fun _ _ _ _ _ => True) (fun _ U o U' => ∃ v L, o = .returned v ∧ Q v U'.heap L ∧ FrameEnd U o U' L rm.cells rm.slots))
    (hf : rm.frames + 1 ≤ R.frames) (hl : W + (maxL + 11) + rm.locals ≤ R.locals) (hc : cells + rm.cells ≤ R.cells) (hs : slots + rm.slots ≤ R.slots) (eT : T.heap = h) (hsz : Ls.size = c.maxLocals) (hlen : ∀ sig, parseMethodDescriptor y.desc = some sig → argsL.length = sig.parameters.length)
    (hst : stk = argsL.reverse ++ .ref b :: rest) (has : (.ref b :: argsL).toArray = as') (hW : (rest.map fun v => v.category).sum ≤ W) (hd : decode c.code pc = .ok (.invokevirtual index, 3))
    (k : ∀ (v : Option Value) (T' : State) (L : List Loc), Stand p l e R s m args below meth c T' (locs ++ L) (cells + rm.cells) (slots + rm.slots) → Q v T'.heap L → own_Go p e below K (T'.setTop (mkF m (pc + 3) Ls (v.toList ++ rest)))) : own_Go p e below K (T.setTop (mkF m pc Ls stk)) := by
  obtain ⟨cq, q1, q2⟩ := E.cell
  obtain ⟨v, _, ⟨T', L', k', n'⟩, -, X', ⟨L, hQ, h1, h2, h3⟩, st⟩ := X.privateBack hx (y := y) hown (mvT hZ w1) (mvT hZ w6) (mvT hZ w5) (Cond.privateMethod_at (mvP hZ w7 (args := #[]))) (mvT hZ w4) hy (backOf (W := W) hM hZ w4 w3 hf hl) (g := mkF m pc Ls stk) rfl hsz (Steps.refl _) (a := b) (by rw [eT]; exact q1) q2 (argsL := argsL) (rest := rest) hlen hst (by show 2 * 0 + _ ≤ _; simpa using hW) hd (fun _ _ => ⟨has, eT, hc, hs⟩)
  dsimp only [Pt.U, Pt.locs, Pt.cells, Pt.slots] at X' h1 h2 h3 st hQ
  subst h1 h2 h3
  exact own_via st (k v T' L X' hQ)
theorem own_cu {owner : String} (X : Stand p l e R s m args below meth c T locs cells slots) (hx : p.tables.exec = Jvm.exec) (hZ : Z.Warmed39 s.vm) (hown : s.vm.findClass own = some m.cls) (w1 : (Cond.methodLink own index y).before a0 Z = true) (w8 : (Cond.sameMethod y.cls owner y.name y.desc).before a0 Z = true) (w2 : (Cond.declares ⟨owner, y.name, y.desc⟩).before a0 Z = true) (w5 : (Cond.selects C y z).before a0 Z = true) (w6 : (Cond.instanceMethod z).before a0 Z = true) (w3 : (Cond.initialized z.cls).before a0 Z = true) (w4 : (Cond.code z bytes maxL ret).before a0 Z = true)
    (hy : owner ≠ "java/lang/invoke/MethodHandle" ∧ owner ≠ "java/lang/invoke/VarHandle") (E : Exa Z h b C)
    (hM : MetFree l z (head1 [Cond.code z bytes maxL ret] rm) (fun a U => a = as' ∧ Z.Warmed39 U.vm ∧ U.heap = h) (fun _ _ _ _ _ => True) (fun _ U o U' => ∃ v L, o = .returned v ∧ Q v U'.heap L ∧ FrameEnd U o U' L rm.cells rm.slots))
    (hf : rm.frames + 1 ≤ R.frames) (hl : W + (maxL + 11) + rm.locals ≤ R.locals) (hc : cells + rm.cells ≤ R.cells) (hs : slots + rm.slots ≤ R.slots) (eT : T.heap = h) (hsz : Ls.size = c.maxLocals) (hlen : ∀ sig, parseMethodDescriptor y.desc = some sig → argsL.length = sig.parameters.length)
    (hst : stk = argsL.reverse ++ .ref b :: rest) (has : (.ref b :: argsL).toArray = as') (hW : (rest.map fun v => v.category).sum ≤ W) (hd : decode c.code pc = .ok (.invokevirtual index, 3))
    (k : ∀ (v : Option Value) (T' : State) (L : List Loc), Stand p l e R s m args below meth c T' (locs ++ L) (cells + rm.cells) (slots + rm.slots) → Q v T'.heap L → own_Go p e below K (T'.setTop (mkF m (pc + 3) Ls (v.toList ++ rest)))) : own_Go p e below K (T.setTop (mkF m pc Ls stk)) := by
  obtain ⟨cq, kq, qa, qb, qc⟩ := isOf hZ eT E
  obtain ⟨v, _, ⟨T', L', k', n'⟩, -, X', ⟨L, hQ, h1, h2, h3⟩, st⟩ := X.virtualBackUp hx (x := y) (y := z) (owner := owner) hown (mvT hZ w1) (mvT hZ w8) (mvT hZ w2) hy (mvT hZ w5) (mvT hZ w6) (backOf (W := W) hM hZ w4 w3 hf hl) qa qc (g := mkF m pc Ls stk) rfl hsz (Steps.refl _) (argsL := argsL) (rest := rest) hlen hst (by show 2 * 0 + _ ≤ _; simpa using hW) hd (fun _ _ => ⟨has, eT, hc, hs⟩)
  dsimp only [Pt.U, Pt.locs, Pt.cells, Pt.slots] at X' h1 h2 h3 st hQ
  subst h1 h2 h3
  exact own_via st (k v T' L X' hQ)
end Calls
theorem own_fld_eq {Z : State} {h : Heap} {a : Addr} {C n d : String} {v w : Value} (F : Fld Z h a C n d v) (G : Fld Z h a C n d w) : v = w := Classical.byContradiction fun q => Fld.ne F G q rfl
theorem own_nsroot {Z : State} {a0 : Array Value} {O K : String} {n : Nat} (w : (Cond.noSuperclass O).before a0 Z = true) (wk : (Cond.instantiable K n).before a0 Z = true) (hn : O ≠ K) : NS Z O K := by
  obtain ⟨c, k, h1, h2, h3, -, -⟩ := Cond.noSuperclass_spec w
  obtain ⟨t, kt, g1, -⟩ := Cond.instantiable_spec wk
  have ne := ids_ne h1 g1 hn
  refine ⟨c, t, h1, g1, fun fuel => ?_⟩
  cases fuel with
  | zero => rfl
  | succ f => simp [Vm.isSubclassAux, ne, h2, h3]
theorem own_nsno {Z : State} {a0 : Array Value} {C S K : String} {n : Nat} (w : (Cond.superclass C S).before a0 Z = true) (wk : (Cond.instantiable K n).before a0 Z = true) (nn : NS Z C K) (hn : C ≠ K) : ∃ c t, Z.vm.findClass C = some c ∧ Z.vm.findClass K = some t ∧ Z.vm.assignable c t = false := by
  obtain ⟨c, t, h0, g0, n3⟩ := nn
  obtain ⟨p, k, kp, h1, h2, h3, h4, h5, -, h7⟩ := Cond.superclass_spec h0 w
  obtain ⟨t', kt, g1, g2, g5, g6, -⟩ := Cond.instantiable_spec wk
  cases g0.symm.trans g1
  have g7 : kt.isInterface = false := by simp only [Bool.or_eq_false_iff] at g6; exact g6.1
  have ne := ids_ne h0 g0 hn
  refine ⟨c, t, h0, g0, ?_⟩
  show Z.vm.assignableAux (255 + 1) c t = false
  simp [Vm.assignableAux, ne, h2, g2, h5, g5, g7, Vm.isSubclass, n3]
theorem own_ns_exa {Z : State} {h : Heap} {a : Addr} {C : String} (F : Exa Z h a C) : ∀ cell : Cell, h[a]? = some cell → cell.vm.isStatics = false := fun cell hc => by
  obtain ⟨c, _, h1, -, -, h4, -⟩ := F; cases h1.symm.trans hc; exact h4
theorem own_ns_arv {Z : State} {h : Heap} {a : Addr} {k : ClassId} {ty : FieldType} {z : Int32} {vs : List Value} {dv : Value} (F : Arv Z h a k ty z vs dv) : ∀ cell : Cell, h[a]? = some cell → cell.vm.isStatics = false := fun cell hc => by
  obtain ⟨c, A, -⟩ := F; cases A.1.symm.trans hc; exact A.plain
theorem own_sta_keep {Z : State} {h h' : Heap} {C f d : String} {v : Value} {ws : List Addr} (F : Sta Z h C f d v) (K : Keep h h' ws) (q : ∀ x ∈ ws, ∀ cell : Cell, h[x]? = some cell → cell.vm.isStatics = false) : Sta Z h' C f d v := by
  obtain ⟨cf, i, k, fl, st, cell, h1, h2, h3, h4, h5, h6, h7⟩ := F
  exact ⟨cf, i, k, fl, st, cell, h1, h2, h3, h4, K.2.1 _ _ h5 (fun hm => by rw [q _ hm _ h5] at h6; cases h6), h6, h7⟩
end Own
end Jvm.RoadKit
namespace Jvm.Pilot.@@N@@
open Jvm Jvm.ClassFile Sem Op Lib Jvm.Free Jvm.Stand Jvm.LawKit Jvm.RoadKit Bundle Jvm.Pilot.@@N@@.Jvm.D
theorem own_m (i : Nat) {d : Jvm.Cond} (h : tables_1[i]? = some d) : d ∈ tables_1 := List.mem_of_getElem? h
theorem own_eq_int {args : Array Value} {s first : State} {o : Option Outcome} {idx : List Nat} {t : Term} {k : Int32} (h : (Cond.eq t (.int k)).value args first o s idx = some true) : t.eval args first o idx s = some (.int k) := by
  obtain ⟨x, y, h1, h2, h3, h4⟩ := cmp_v (r := true) (Or.inl h)
  have e2 : y = .int k := (Option.some.inj h2).symm
  subst e2
  obtain ⟨z, rfl⟩ := h4
  have q := h
  simp only [Cond.value, h1, h2] at q
  have : z = k := by simpa using q
  rw [h1, this]
theorem own_eq_ref {args : Array Value} {s first : State} {o : Option Outcome} {idx : List Nat} {t u : Term} {a : Addr} (hu : u.eval args first o idx s = some (.ref a)) (h : (Cond.eq t u).value args first o s idx = some true) : t.eval args first o idx s = some (.ref a) := by
  obtain ⟨x, y, h1, h2, h3, h4⟩ := cmp_v (r := true) (Or.inl h)
  cases hu.symm.trans h2
  have q := h
  simp only [Cond.value, h1, h2] at q
  cases x <;> simp [Kin, Value.isRef] at h3 h4 q ⊢
  rw [h1, q]
theorem own_d_prog_19_method_2_code_0 : decode prog_19_method_2_code 0 = .ok (.iload_n 0, 1) := by decide +kernel
theorem own_d_prog_19_method_2_code_1 : decode prog_19_method_2_code 1 = .ok (.ifCond .eq 9, 3) := by decide +kernel
theorem own_d_prog_19_method_2_code_10 : decode prog_19_method_2_code 10 = .ok (.getstatic 17, 3) := by decide +kernel
theorem own_d_prog_19_method_2_code_13 : decode prog_19_method_2_code 13 = .ok (.areturn, 1) := by decide +kernel
theorem own_pn_com_example_libsortkey_libsortkey_values_BooleanValue : plainName "com/example/libsortkey/libsortkey/values/BooleanValue" = true := by first | (simp [plainName, overriddenIn]; done) | decide +kernel
def Q_a1_of (Z : State) (r_FALSE : Addr) (h0 : Heap) (n0 : Nat) (v : Option Value) (h : Heap) (L : List Loc) : Prop := v = some (.ref r_FALSE) ∧ Fr n0 L ∧ h = h0
set_option maxRecDepth 65536 in
set_option maxHeartbeats 40000000 in
theorem rm_a1_of (l : Launch) (Z : State) (a0 : Array Value) (hw : ∀ d ∈ tables_1, d.before a0 Z = true) (ws : List Jvm.Cond) (r_FALSE : Addr) (h0 : Heap) (n0 : Nat) (Z0 : n0 ≤ h0.size) (S_FALSE : Sta Z h0 "com/example/libsortkey/libsortkey/values/BooleanValue" "FALSE" "Lcom/example/libsortkey/libsortkey/values/BooleanValue;" (.ref r_FALSE)) :
    MetFree l (⟨"com/example/libsortkey/libsortkey/values/BooleanValue", "of", "(Z)Lcom/example/libsortkey/libsortkey/values/BooleanValue;"⟩ : MethodName) (head1 (Jvm.Cond.code (⟨"com/example/libsortkey/libsortkey/values/BooleanValue", "of", "(Z)Lcom/example/libsortkey/libsortkey/values/BooleanValue;"⟩ : MethodName) prog_19_method_2_code 1 (some (.object "com/example/libsortkey/libsortkey/values/BooleanValue")) :: ws) ({ frames := 0, cells := 0, slots := 0, locals := 0 } : Room)) (fun a U => a = #[(.int (0 : Int32))] ∧ Z.Warmed39 U.vm ∧ U.heap = h0) (fun _ _ _ _ _ => True) (fun _ U o U' => ∃ v L, o = .returned v ∧ Q_a1_of Z r_FALSE h0 n0 v U'.heap L ∧ FrameEnd U o U' L ({ frames := 0, cells := 0, slots := 0, locals := 0 } : Room).cells ({ frames := 0, cells := 0, slots := 0, locals := 0 } : Room).slots) := by
  refine MetFree.of_bodySF (plainFor_of_name own_pn_com_example_libsortkey_libsortkey_values_BooleanValue) hisR ?_
  intro p e s m args below meth c s₁ Bd hml0 hP hK
  obtain ⟨rfl, hZ, hh⟩ := hP
  have hx := Bd.exec
  have hby := Bd.bytes
  have hlk : meth.locks = false := BodyLoose.notSynchronized Bd
  have hml : c.maxLocals = 1 := hml0
  have hown : s.vm.findClass "com/example/libsortkey/libsortkey/values/BooleanValue" = some m.cls := findClass_of_methodNamed Bd.named
  have hnm := (name_of_methodNamed Bd.named Bd.method).1
  have X0 : Stand p l e ({ frames := 0, cells := 0, slots := 0, locals := 0 } : Room) s m #[(.int (0 : Int32))] below meth c s₁ [] 0 0 := Stand.of_body Bd
  have e0 : s₁.heap = h0 := by rw [← hh, Bd.state]; rfl
  have N0 := Fr.nil n0
  show own_Go p e below (own_K s (Q_a1_of Z r_FALSE h0 n0) ({ frames := 0, cells := 0, slots := 0, locals := 0 } : Room).cells ({ frames := 0, cells := 0, slots := 0, locals := 0 } : Room).slots) (s₁.setTop (entryFrame m #[(.int (0 : Int32))] 1))
  rw [(by first | (simp [entryFrame, mkF, argsToLocals, Value.category]; done) | rfl : entryFrame m #[(.int (0 : Int32))] 1 = mkF m 0 #[.val (.int (0 : Int32))] [])]
  show own_Go p e below _ (s₁.setTop (mkF m 0 #[.val (.int (0 : Int32))] []))
  refine own_go (fun _ hr => XS.iloadN X0.here hx rfl (hb hby own_d_prog_19_method_2_code_0) rfl (XS.ifYes X0.here hx rfl (pc0 := 1) (pc' := 10) rfl (hb hby own_d_prog_19_method_2_code_1) rfl ((if0 _ _).trans (teq (by decide)).1) (by decide) (by decide) hr)) ?_
  show own_Go p e below _ (s₁.setTop (mkF m 10 #[.val (.int (0 : Int32))] []))
  obtain ⟨T1, X1, e1, st1⟩ := getS2 X0 hx hZ hown (host := "") (Or.inl (hw _ (own_m 4 rfl))) Via.refl e0 S_FALSE (g := (mkF m 10 #[.val (.int (0 : Int32))] [])) rfl (hb hby own_d_prog_19_method_2_code_10)
  refine own_go st1 ?_
  show own_Go p e below _ (T1.setTop (mkF m 13 #[.val (.int (0 : Int32))] [(.ref r_FALSE)]))
  exact own_retR X1 hx hlk Bd.returns rfl rfl (hb hby own_d_prog_19_method_2_code_13) (by decide) (by decide) ⟨rfl, N0, e1⟩
theorem own_pd0 : parseMethodDescriptor "(Z)Lcom/example/libsortkey/libsortkey/values/BooleanValue;" = some ⟨[.boolean], some (.object "com/example/libsortkey/libsortkey/values/BooleanValue")⟩ := by decide +kernel
theorem own_d_prog_19_method_4_code_0 : decode prog_19_method_4_code 0 = .ok (.aload_n 0, 1) := by decide +kernel
theorem own_d_prog_19_method_4_code_1 : decode prog_19_method_4_code 1 = .ok (.getfield 7, 3) := by decide +kernel
theorem own_d_prog_19_method_4_code_4 : decode prog_19_method_4_code 4 = .ok (.ireturn, 1) := by decide +kernel
def Q_a2_value (Z : State) (h0 : Heap) (n0 : Nat) (v : Option Value) (h : Heap) (L : List Loc) : Prop := v = some (.int (0 : Int32)) ∧ Fr n0 L ∧ h = h0
set_option maxRecDepth 65536 in
set_option maxHeartbeats 40000000 in
theorem rm_a2_value (l : Launch) (Z : State) (a0 : Array Value) (hw : ∀ d ∈ tables_1, d.before a0 Z = true) (ws : List Jvm.Cond) (r_FALSE : Addr) (h0 : Heap) (n0 : Nat) (Z0 : n0 ≤ h0.size) (F_FALSE_value : Fld Z h0 r_FALSE "com/example/libsortkey/libsortkey/values/BooleanValue" "value" "Z" (.int (0 : Int32))) :
    MetFree l (⟨"com/example/libsortkey/libsortkey/values/BooleanValue", "value", "()Z"⟩ : MethodName) (head1 (Jvm.Cond.code (⟨"com/example/libsortkey/libsortkey/values/BooleanValue", "value", "()Z"⟩ : MethodName) prog_19_method_4_code 1 (some .boolean) :: ws) ({ frames := 0, cells := 0, slots := 0, locals := 0 } : Room)) (fun a U => a = #[(.ref r_FALSE)] ∧ Z.Warmed39 U.vm ∧ U.heap = h0) (fun _ _ _ _ _ => True) (fun _ U o U' => ∃ v L, o = .returned v ∧ Q_a2_value Z h0 n0 v U'.heap L ∧ FrameEnd U o U' L ({ frames := 0, cells := 0, slots := 0, locals := 0 } : Room).cells ({ frames := 0, cells := 0, slots := 0, locals := 0 } : Room).slots) := by
  refine MetFree.of_bodySF (plainFor_of_name own_pn_com_example_libsortkey_libsortkey_values_BooleanValue) hisR ?_
  intro p e s m args below meth c s₁ Bd hml0 hP hK
  obtain ⟨rfl, hZ, hh⟩ := hP
  have hx := Bd.exec
  have hby := Bd.bytes
  have hlk : meth.locks = false := BodyLoose.notSynchronized Bd
  have hml : c.maxLocals = 1 := hml0
  have hown : s.vm.findClass "com/example/libsortkey/libsortkey/values/BooleanValue" = some m.cls := findClass_of_methodNamed Bd.named
  have hnm := (name_of_methodNamed Bd.named Bd.method).1
  have X0 : Stand p l e ({ frames := 0, cells := 0, slots := 0, locals := 0 } : Room) s m #[(.ref r_FALSE)] below meth c s₁ [] 0 0 := Stand.of_body Bd
  have e0 : s₁.heap = h0 := by rw [← hh, Bd.state]; rfl
  have N0 := Fr.nil n0
  show own_Go p e below (own_K s (Q_a2_value Z h0 n0) ({ frames := 0, cells := 0, slots := 0, locals := 0 } : Room).cells ({ frames := 0, cells := 0, slots := 0, locals := 0 } : Room).slots) (s₁.setTop (entryFrame m #[(.ref r_FALSE)] 1))
  rw [(by first | (simp [entryFrame, mkF, argsToLocals, Value.category]; done) | rfl : entryFrame m #[(.ref r_FALSE)] 1 = mkF m 0 #[.val (.ref r_FALSE)] [])]
  show own_Go p e below _ (s₁.setTop (mkF m 0 #[.val (.ref r_FALSE)] []))
  refine own_go (fun _ hr => XS.aloadN X0.here hx rfl (hb hby own_d_prog_19_method_4_code_0) rfl rfl hr) ?_
  show own_Go p e below _ (s₁.setTop (mkF m 1 #[.val (.ref r_FALSE)] [(.ref r_FALSE)]))
  obtain ⟨T1, X1, e1, st1⟩ := getF X0 hx hZ hown (host := "") (Or.inl (hw _ (own_m 13 rfl))) Via.refl e0 F_FALSE_value (g := (mkF m 1 #[.val (.ref r_FALSE)] [(.ref r_FALSE)])) rfl rfl (hb hby own_d_prog_19_method_4_code_1)
  refine own_go st1 ?_
  show own_Go p e below _ (T1.setTop (mkF m 4 #[.val (.ref r_FALSE)] [(.int (0 : Int32))]))
  exact own_retN X1 hx hlk Bd.returns (t := .boolean) (by simp) (hb hby own_d_prog_19_method_4_code_4) (by decide) (by decide) ⟨rfl, N0, e1⟩
theorem own_pd1 : parseMethodDescriptor "()Z" = some ⟨[], some .boolean⟩ := by decide +kernel
theorem own_d_prog_19_method_9_code_0 : decode prog_19_method_9_code 0 = .ok (.aload_n 0, 1) := by decide +kernel
theorem own_d_prog_19_method_9_code_1 : decode prog_19_method_9_code 1 = .ok (.getfield 7, 3) := by decide +kernel
theorem own_d_prog_19_method_9_code_4 : decode prog_19_method_9_code 4 = .ok (.ifCond .eq 7, 3) := by decide +kernel
theorem own_d_prog_19_method_9_code_11 : decode prog_19_method_9_code 11 = .ok (.iconst 0, 1) := by decide +kernel
theorem own_d_prog_19_method_9_code_12 : decode prog_19_method_9_code 12 = .ok (.i2b, 1) := by decide +kernel
theorem own_d_prog_19_method_9_code_13 : decode prog_19_method_9_code 13 = .ok (.ireturn, 1) := by decide +kernel
def Q_a3_keyByte (Z : State) (h0 : Heap) (n0 : Nat) (v : Option Value) (h : Heap) (L : List Loc) : Prop := v = some (.int (0 : Int32)) ∧ Fr n0 L ∧ h = h0
set_option maxRecDepth 65536 in
set_option maxHeartbeats 40000000 in
theorem rm_a3_keyByte (l : Launch) (Z : State) (a0 : Array Value) (hw : ∀ d ∈ tables_1, d.before a0 Z = true) (ws : List Jvm.Cond) (r_FALSE : Addr) (h0 : Heap) (n0 : Nat) (Z0 : n0 ≤ h0.size) (F_FALSE_value : Fld Z h0 r_FALSE "com/example/libsortkey/libsortkey/values/BooleanValue" "value" "Z" (.int (0 : Int32))) :
    MetFree l (⟨"com/example/libsortkey/libsortkey/values/BooleanValue", "keyByte", "()B"⟩ : MethodName) (head1 (Jvm.Cond.code (⟨"com/example/libsortkey/libsortkey/values/BooleanValue", "keyByte", "()B"⟩ : MethodName) prog_19_method_9_code 1 (some .byte) :: ws) ({ frames := 0, cells := 0, slots := 0, locals := 0 } : Room)) (fun a U => a = #[(.ref r_FALSE)] ∧ Z.Warmed39 U.vm ∧ U.heap = h0) (fun _ _ _ _ _ => True) (fun _ U o U' => ∃ v L, o = .returned v ∧ Q_a3_keyByte Z h0 n0 v U'.heap L ∧ FrameEnd U o U' L ({ frames := 0, cells := 0, slots := 0, locals := 0 } : Room).cells ({ frames := 0, cells := 0, slots := 0, locals := 0 } : Room).slots) := by
  refine MetFree.of_bodySF (plainFor_of_name own_pn_com_example_libsortkey_libsortkey_values_BooleanValue) hisR ?_
  intro p e s m args below meth c s₁ Bd hml0 hP hK
  obtain ⟨rfl, hZ, hh⟩ := hP
  have hx := Bd.exec
  have hby := Bd.bytes
  have hlk : meth.locks = false := BodyLoose.notSynchronized Bd
  have hml : c.maxLocals = 1 := hml0
  have hown : s.vm.findClass "com/example/libsortkey/libsortkey/values/BooleanValue" = some m.cls := findClass_of_methodNamed Bd.named
  have hnm := (name_of_methodNamed Bd.named Bd.method).1
  have X0 : Stand p l e ({ frames := 0, cells := 0, slots := 0, locals := 0 } : Room) s m #[(.ref r_FALSE)] below meth c s₁ [] 0 0 := Stand.of_body Bd
  have e0 : s₁.heap = h0 := by rw [← hh, Bd.state]; rfl
  have N0 := Fr.nil n0
  show own_Go p e below (own_K s (Q_a3_keyByte Z h0 n0) ({ frames := 0, cells := 0, slots := 0, locals := 0 } : Room).cells ({ frames := 0, cells := 0, slots := 0, locals := 0 } : Room).slots) (s₁.setTop (entryFrame m #[(.ref r_FALSE)] 1))
  rw [(by first | (simp [entryFrame, mkF, argsToLocals, Value.category]; done) | rfl : entryFrame m #[(.ref r_FALSE)] 1 = mkF m 0 #[.val (.ref r_FALSE)] [])]
  show own_Go p e below _ (s₁.setTop (mkF m 0 #[.val (.ref r_FALSE)] []))
  refine own_go (fun _ hr => XS.aloadN X0.here hx rfl (hb hby own_d_prog_19_method_9_code_0) rfl rfl hr) ?_
  show own_Go p e below _ (s₁.setTop (mkF m 1 #[.val (.ref r_FALSE)] [(.ref r_FALSE)]))
  obtain ⟨T1, X1, e1, st1⟩ := getF X0 hx hZ hown (host := "") (Or.inl (hw _ (own_m 13 rfl))) Via.refl e0 F_FALSE_value (g := (mkF m 1 #[.val (.ref r_FALSE)] [(.ref r_FALSE)])) rfl rfl (hb hby own_d_prog_19_method_9_code_1)
  refine own_go st1 ?_
  show own_Go p e below _ (T1.setTop (mkF m 4 #[.val (.ref r_FALSE)] [(.int (0 : Int32))]))
  refine own_go (fun _ hr => XS.ifYes X1.here hx rfl (pc0 := 4) (pc' := 11) rfl (hb hby own_d_prog_19_method_9_code_4) rfl ((if0 _ _).trans (teq (by decide)).1) (by decide) (by decide) (XS.iconst X1.here hx rfl (hb hby own_d_prog_19_method_9_code_11) (XS.i2b X1.here hx rfl (hb hby own_d_prog_19_method_9_code_12) rfl hr))) ?_
  show own_Go p e below _ (T1.setTop (mkF m 13 #[.val (.ref r_FALSE)] [(.int (0 : Int32))]))
  exact own_retN X1 hx hlk Bd.returns (t := .byte) (by simp) (hb hby own_d_prog_19_method_9_code_13) (by decide) (by decide) ⟨rfl, N0, e1⟩
theorem own_pd2 : parseMethodDescriptor "()B" = some ⟨[], some .byte⟩ := by decide +kernel
theorem own_d_prog_19_method_10_code_0 : decode prog_19_method_10_code 0 = .ok (.aload_n 1, 1) := by decide +kernel
theorem own_d_prog_19_method_10_code_1 : decode prog_19_method_10_code 1 = .ok (.instanceof 8, 3) := by decide +kernel
theorem own_d_prog_19_method_10_code_4 : decode prog_19_method_10_code 4 = .ok (.ifCond .eq 21, 3) := by decide +kernel
theorem own_d_prog_19_method_10_code_7 : decode prog_19_method_10_code 7 = .ok (.aload_n 1, 1) := by decide +kernel
theorem own_d_prog_19_method_10_code_8 : decode prog_19_method_10_code 8 = .ok (.checkcast 8, 3) := by decide +kernel
theorem own_d_prog_19_method_10_code_11 : decode prog_19_method_10_code 11 = .ok (.getfield 7, 3) := by decide +kernel
theorem own_d_prog_19_method_10_code_14 : decode prog_19_method_10_code 14 = .ok (.aload_n 0, 1) := by decide +kernel
theorem own_d_prog_19_method_10_code_15 : decode prog_19_method_10_code 15 = .ok (.getfield 7, 3) := by decide +kernel
theorem own_d_prog_19_method_10_code_18 : decode prog_19_method_10_code 18 = .ok (.if_icmp .ne 7, 3) := by decide +kernel
theorem own_d_prog_19_method_10_code_21 : decode prog_19_method_10_code 21 = .ok (.iconst 1, 1) := by decide +kernel
theorem own_d_prog_19_method_10_code_22 : decode prog_19_method_10_code 22 = .ok (.goto 4, 3) := by decide +kernel
theorem own_d_prog_19_method_10_code_26 : decode prog_19_method_10_code 26 = .ok (.ireturn, 1) := by decide +kernel
def Q_a4_equals (Z : State) (h0 : Heap) (n0 : Nat) (v : Option Value) (h : Heap) (L : List Loc) : Prop := v = some (.int (1 : Int32)) ∧ Fr n0 L ∧ h = h0
set_option maxRecDepth 65536 in
set_option maxHeartbeats 40000000 in
theorem rm_a4_equals (l : Launch) (Z : State) (a0 : Array Value) (hw : ∀ d ∈ tables_1, d.before a0 Z = true) (ws : List Jvm.Cond) (r_FALSE : Addr) (h0 : Heap) (n0 : Nat) (Z0 : n0 ≤ h0.size) (E_FALSE : Exa Z h0 r_FALSE "com/example/libsortkey/libsortkey/values/BooleanValue") (F_FALSE_value : Fld Z h0 r_FALSE "com/example/libsortkey/libsortkey/values/BooleanValue" "value" "Z" (.int (0 : Int32))) :
    MetFree l (⟨"com/example/libsortkey/libsortkey/values/BooleanValue", "equals", "(Ljava/lang/Object;)Z"⟩ : MethodName) (head1 (Jvm.Cond.code (⟨"com/example/libsortkey/libsortkey/values/BooleanValue", "equals", "(Ljava/lang/Object;)Z"⟩ : MethodName) prog_19_method_10_code 2 (some .boolean) :: ws) ({ frames := 0, cells := 0, slots := 0, locals := 0 } : Room)) (fun a U => a = #[(.ref r_FALSE), (.ref r_FALSE)] ∧ Z.Warmed39 U.vm ∧ U.heap = h0) (fun _ _ _ _ _ => True) (fun _ U o U' => ∃ v L, o = .returned v ∧ Q_a4_equals Z h0 n0 v U'.heap L ∧ FrameEnd U o U' L ({ frames := 0, cells := 0, slots := 0, locals := 0 } : Room).cells ({ frames := 0, cells := 0, slots := 0, locals := 0 } : Room).slots) := by
  refine MetFree.of_bodySF (plainFor_of_name own_pn_com_example_libsortkey_libsortkey_values_BooleanValue) hisR ?_
  intro p e s m args below meth c s₁ Bd hml0 hP hK
  obtain ⟨rfl, hZ, hh⟩ := hP
  have hx := Bd.exec
  have hby := Bd.bytes
  have hlk : meth.locks = false := BodyLoose.notSynchronized Bd
  have hml : c.maxLocals = 2 := hml0
  have hown : s.vm.findClass "com/example/libsortkey/libsortkey/values/BooleanValue" = some m.cls := findClass_of_methodNamed Bd.named
  have hnm := (name_of_methodNamed Bd.named Bd.method).1
  have X0 : Stand p l e ({ frames := 0, cells := 0, slots := 0, locals := 0 } : Room) s m #[(.ref r_FALSE), (.ref r_FALSE)] below meth c s₁ [] 0 0 := Stand.of_body Bd
  have e0 : s₁.heap = h0 := by rw [← hh, Bd.state]; rfl
  have N0 := Fr.nil n0
  show own_Go p e below (own_K s (Q_a4_equals Z h0 n0) ({ frames := 0, cells := 0, slots := 0, locals := 0 } : Room).cells ({ frames := 0, cells := 0, slots := 0, locals := 0 } : Room).slots) (s₁.setTop (entryFrame m #[(.ref r_FALSE), (.ref r_FALSE)] 2))
  rw [(by first | (simp [entryFrame, mkF, argsToLocals, Value.category]; done) | rfl : entryFrame m #[(.ref r_FALSE), (.ref r_FALSE)] 2 = mkF m 0 #[.val (.ref r_FALSE), .val (.ref r_FALSE)] [])]
  show own_Go p e below _ (s₁.setTop (mkF m 0 #[.val (.ref r_FALSE), .val (.ref r_FALSE)] []))
  refine own_go (fun _ hr => XS.aloadN X0.here hx rfl (hb hby own_d_prog_19_method_10_code_0) rfl rfl hr) ?_
  show own_Go p e below _ (s₁.setTop (mkF m 1 #[.val (.ref r_FALSE), .val (.ref r_FALSE)] [(.ref r_FALSE)]))
  obtain ⟨T1, X1, e1, st1⟩ := instY X0 hx hZ hown (hw _ (own_m 25 rfl)) e0 (Ins.self E_FALSE) (g := (mkF m 1 #[.val (.ref r_FALSE), .val (.ref r_FALSE)] [(.ref r_FALSE)])) rfl rfl (hb hby own_d_prog_19_method_10_code_1)
  refine own_go st1 ?_
  show own_Go p e below _ (T1.setTop (mkF m 4 #[.val (.ref r_FALSE), .val (.ref r_FALSE)] [(.int (1 : Int32))]))
  refine own_go (fun _ hr => XS.ifNo X1.here hx rfl (hb hby own_d_prog_19_method_10_code_4) rfl ((if0 _ _).trans (feq (by decide)).1) (XS.aloadN X1.here hx rfl (hb hby own_d_prog_19_method_10_code_7) rfl rfl hr)) ?_
  show own_Go p e below _ (T1.setTop (mkF m 8 #[.val (.ref r_FALSE), .val (.ref r_FALSE)] [(.ref r_FALSE)]))
  obtain ⟨T2, X2, e2, st2⟩ := castY X1 hx hZ hown (hw _ (own_m 25 rfl)) e1 (Ins.self E_FALSE) (g := (mkF m 8 #[.val (.ref r_FALSE), .val (.ref r_FALSE)] [(.ref r_FALSE)])) rfl rfl (hb hby own_d_prog_19_method_10_code_8)
  refine own_go st2 ?_
  show own_Go p e below _ (T2.setTop (mkF m 11 #[.val (.ref r_FALSE), .val (.ref r_FALSE)] [(.ref r_FALSE)]))
  obtain ⟨T3, X3, e3, st3⟩ := getF X2 hx hZ hown (host := "") (Or.inl (hw _ (own_m 13 rfl))) Via.refl e2 F_FALSE_value (g := (mkF m 11 #[.val (.ref r_FALSE), .val (.ref r_FALSE)] [(.ref r_FALSE)])) rfl rfl (hb hby own_d_prog_19_method_10_code_11)
  refine own_go st3 ?_
  show own_Go p e below _ (T3.setTop (mkF m 14 #[.val (.ref r_FALSE), .val (.ref r_FALSE)] [(.int (0 : Int32))]))
  refine own_go (fun _ hr => XS.aloadN X3.here hx rfl (hb hby own_d_prog_19_method_10_code_14) rfl rfl hr) ?_
  show own_Go p e below _ (T3.setTop (mkF m 15 #[.val (.ref r_FALSE), .val (.ref r_FALSE)] [(.ref r_FALSE), (.int (0 : Int32))]))
  obtain ⟨T4, X4, e4, st4⟩ := getF X3 hx hZ hown (host := "") (Or.inl (hw _ (own_m 13 rfl))) Via.refl e3 F_FALSE_value (g := (mkF m 15 #[.val (.ref r_FALSE), .val (.ref r_FALSE)] [(.ref r_FALSE), (.int (0 : Int32))])) rfl rfl (hb hby own_d_prog_19_method_10_code_15)
  refine own_go st4 ?_
  show own_Go p e below _ (T4.setTop (mkF m 18 #[.val (.ref r_FALSE), .val (.ref r_FALSE)] [(.int (0 : Int32)), (.int (0 : Int32))]))
  refine own_go (fun _ hr => XS.icmpNo X4.here hx rfl (hb hby own_d_prog_19_method_10_code_18) rfl (teq (by decide)).2 (XS.iconst X4.here hx rfl (hb hby own_d_prog_19_method_10_code_21) (XS.goto X4.here hx rfl (pc0 := 22) (pc' := 26) rfl (hb hby own_d_prog_19_method_10_code_22) (by decide) (by decide) hr))) ?_
  show own_Go p e below _ (T4.setTop (mkF m 26 #[.val (.ref r_FALSE), .val (.ref r_FALSE)] [(.int (1 : Int32))]))
  exact own_retN X4 hx hlk Bd.returns (t := .boolean) (by simp) (hb hby own_d_prog_19_method_10_code_26) (by decide) (by decide) ⟨rfl, N0, e4⟩
theorem own_pd3 : parseMethodDescriptor "(Ljava/lang/Object;)Z" = some ⟨[(.object "java/lang/Object")], some .boolean⟩ := by decide +kernel
theorem own_d_prog_19_method_2_code_4 : decode prog_19_method_2_code 4 = .ok (.getstatic 13, 3) := by decide +kernel
theorem own_d_prog_19_method_2_code_7 : decode prog_19_method_2_code 7 = .ok (.goto 6, 3) := by decide +kernel
def Q_a5_of (Z : State) (r_TRUE : Addr) (h0 : Heap) (n0 : Nat) (v : Option Value) (h : Heap) (L : List Loc) : Prop := v = some (.ref r_TRUE) ∧ Fr n0 L ∧ h = h0
set_option maxRecDepth 65536 in
set_option maxHeartbeats 40000000 in
theorem rm_a5_of (l : Launch) (Z : State) (a0 : Array Value) (hw : ∀ d ∈ tables_1, d.before a0 Z = true) (ws : List Jvm.Cond) (r_TRUE : Addr) (h0 : Heap) (n0 : Nat) (Z0 : n0 ≤ h0.size) (S_TRUE : Sta Z h0 "com/example/libsortkey/libsortkey/values/BooleanValue" "TRUE" "Lcom/example/libsortkey/libsortkey/values/BooleanValue;" (.ref r_TRUE)) :
    MetFree l (⟨"com/example/libsortkey/libsortkey/values/BooleanValue", "of", "(Z)Lcom/example/libsortkey/libsortkey/values/BooleanValue;"⟩ : MethodName) (head1 (Jvm.Cond.code (⟨"com/example/libsortkey/libsortkey/values/BooleanValue", "of", "(Z)Lcom/example/libsortkey/libsortkey/values/BooleanValue;"⟩ : MethodName) prog_19_method_2_code 1 (some (.object "com/example/libsortkey/libsortkey/values/BooleanValue")) :: ws) ({ frames := 0, cells := 0, slots := 0, locals := 0 } : Room)) (fun a U => a = #[(.int (1 : Int32))] ∧ Z.Warmed39 U.vm ∧ U.heap = h0) (fun _ _ _ _ _ => True) (fun _ U o U' => ∃ v L, o = .returned v ∧ Q_a5_of Z r_TRUE h0 n0 v U'.heap L ∧ FrameEnd U o U' L ({ frames := 0, cells := 0, slots := 0, locals := 0 } : Room).cells ({ frames := 0, cells := 0, slots := 0, locals := 0 } : Room).slots) := by
  refine MetFree.of_bodySF (plainFor_of_name own_pn_com_example_libsortkey_libsortkey_values_BooleanValue) hisR ?_
  intro p e s m args below meth c s₁ Bd hml0 hP hK
  obtain ⟨rfl, hZ, hh⟩ := hP
  have hx := Bd.exec
  have hby := Bd.bytes
  have hlk : meth.locks = false := BodyLoose.notSynchronized Bd
  have hml : c.maxLocals = 1 := hml0
  have hown : s.vm.findClass "com/example/libsortkey/libsortkey/values/BooleanValue" = some m.cls := findClass_of_methodNamed Bd.named
  have hnm := (name_of_methodNamed Bd.named Bd.method).1
  have X0 : Stand p l e ({ frames := 0, cells := 0, slots := 0, locals := 0 } : Room) s m #[(.int (1 : Int32))] below meth c s₁ [] 0 0 := Stand.of_body Bd
  have e0 : s₁.heap = h0 := by rw [← hh, Bd.state]; rfl
  have N0 := Fr.nil n0
  show own_Go p e below (own_K s (Q_a5_of Z r_TRUE h0 n0) ({ frames := 0, cells := 0, slots := 0, locals := 0 } : Room).cells ({ frames := 0, cells := 0, slots := 0, locals := 0 } : Room).slots) (s₁.setTop (entryFrame m #[(.int (1 : Int32))] 1))
  rw [(by first | (simp [entryFrame, mkF, argsToLocals, Value.category]; done) | rfl : entryFrame m #[(.int (1 : Int32))] 1 = mkF m 0 #[.val (.int (1 : Int32))] [])]
  show own_Go p e below _ (s₁.setTop (mkF m 0 #[.val (.int (1 : Int32))] []))
  refine own_go (fun _ hr => XS.iloadN X0.here hx rfl (hb hby own_d_prog_19_method_2_code_0) rfl (XS.ifNo X0.here hx rfl (hb hby own_d_prog_19_method_2_code_1) rfl ((if0 _ _).trans (feq (by decide)).1) hr)) ?_
  show own_Go p e below _ (s₁.setTop (mkF m 4 #[.val (.int (1 : Int32))] []))
  obtain ⟨T1, X1, e1, st1⟩ := getS2 X0 hx hZ hown (host := "") (Or.inl (hw _ (own_m 6 rfl))) Via.refl e0 S_TRUE (g := (mkF m 4 #[.val (.int (1 : Int32))] [])) rfl (hb hby own_d_prog_19_method_2_code_4)
  refine own_go st1 ?_
  show own_Go p e below _ (T1.setTop (mkF m 7 #[.val (.int (1 : Int32))] [(.ref r_TRUE)]))
  refine own_go (fun _ hr => XS.goto X1.here hx rfl (pc0 := 7) (pc' := 13) rfl (hb hby own_d_prog_19_method_2_code_7) (by decide) (by decide) hr) ?_
  show own_Go p e below _ (T1.setTop (mkF m 13 #[.val (.int (1 : Int32))] [(.ref r_TRUE)]))
  exact own_retR X1 hx hlk Bd.returns rfl rfl (hb hby own_d_prog_19_method_2_code_13) (by decide) (by decide) ⟨rfl, N0, e1⟩
def Q_a6_value (Z : State) (h0 : Heap) (n0 : Nat) (v : Option Value) (h : Heap) (L : List Loc) : Prop := v = some (.int (1 : Int32)) ∧ Fr n0 L ∧ h = h0
set_option maxRecDepth 65536 in
set_option maxHeartbeats 40000000 in
theorem rm_a6_value (l : Launch) (Z : State) (a0 : Array Value) (hw : ∀ d ∈ tables_1, d.before a0 Z = true) (ws : List Jvm.Cond) (r_TRUE : Addr) (h0 : Heap) (n0 : Nat) (Z0 : n0 ≤ h0.size) (F_TRUE_value : Fld Z h0 r_TRUE "com/example/libsortkey/libsortkey/values/BooleanValue" "value" "Z" (.int (1 : Int32))) :
    MetFree l (⟨"com/example/libsortkey/libsortkey/values/BooleanValue", "value", "()Z"⟩ : MethodName) (head1 (Jvm.Cond.code (⟨"com/example/libsortkey/libsortkey/values/BooleanValue", "value", "()Z"⟩ : MethodName) prog_19_method_4_code 1 (some .boolean) :: ws) ({ frames := 0, cells := 0, slots := 0, locals := 0 } : Room)) (fun a U => a = #[(.ref r_TRUE)] ∧ Z.Warmed39 U.vm ∧ U.heap = h0) (fun _ _ _ _ _ => True) (fun _ U o U' => ∃ v L, o = .returned v ∧ Q_a6_value Z h0 n0 v U'.heap L ∧ FrameEnd U o U' L ({ frames := 0, cells := 0, slots := 0, locals := 0 } : Room).cells ({ frames := 0, cells := 0, slots := 0, locals := 0 } : Room).slots) := by
  refine MetFree.of_bodySF (plainFor_of_name own_pn_com_example_libsortkey_libsortkey_values_BooleanValue) hisR ?_
  intro p e s m args below meth c s₁ Bd hml0 hP hK
  obtain ⟨rfl, hZ, hh⟩ := hP
  have hx := Bd.exec
  have hby := Bd.bytes
  have hlk : meth.locks = false := BodyLoose.notSynchronized Bd
  have hml : c.maxLocals = 1 := hml0
  have hown : s.vm.findClass "com/example/libsortkey/libsortkey/values/BooleanValue" = some m.cls := findClass_of_methodNamed Bd.named
  have hnm := (name_of_methodNamed Bd.named Bd.method).1
  have X0 : Stand p l e ({ frames := 0, cells := 0, slots := 0, locals := 0 } : Room) s m #[(.ref r_TRUE)] below meth c s₁ [] 0 0 := Stand.of_body Bd
  have e0 : s₁.heap = h0 := by rw [← hh, Bd.state]; rfl
  have N0 := Fr.nil n0
  show own_Go p e below (own_K s (Q_a6_value Z h0 n0) ({ frames := 0, cells := 0, slots := 0, locals := 0 } : Room).cells ({ frames := 0, cells := 0, slots := 0, locals := 0 } : Room).slots) (s₁.setTop (entryFrame m #[(.ref r_TRUE)] 1))
  rw [(by first | (simp [entryFrame, mkF, argsToLocals, Value.category]; done) | rfl : entryFrame m #[(.ref r_TRUE)] 1 = mkF m 0 #[.val (.ref r_TRUE)] [])]
  show own_Go p e below _ (s₁.setTop (mkF m 0 #[.val (.ref r_TRUE)] []))
  refine own_go (fun _ hr => XS.aloadN X0.here hx rfl (hb hby own_d_prog_19_method_4_code_0) rfl rfl hr) ?_
  show own_Go p e below _ (s₁.setTop (mkF m 1 #[.val (.ref r_TRUE)] [(.ref r_TRUE)]))
  obtain ⟨T1, X1, e1, st1⟩ := getF X0 hx hZ hown (host := "") (Or.inl (hw _ (own_m 13 rfl))) Via.refl e0 F_TRUE_value (g := (mkF m 1 #[.val (.ref r_TRUE)] [(.ref r_TRUE)])) rfl rfl (hb hby own_d_prog_19_method_4_code_1)
  refine own_go st1 ?_
  show own_Go p e below _ (T1.setTop (mkF m 4 #[.val (.ref r_TRUE)] [(.int (1 : Int32))]))
  exact own_retN X1 hx hlk Bd.returns (t := .boolean) (by simp) (hb hby own_d_prog_19_method_4_code_4) (by decide) (by decide) ⟨rfl, N0, e1⟩
theorem own_d_prog_19_method_10_code_25 : decode prog_19_method_10_code 25 = .ok (.iconst 0, 1) := by decide +kernel
def Q_a7_equals (Z : State) (h0 : Heap) (n0 : Nat) (v : Option Value) (h : Heap) (L : List Loc) : Prop := v = some (.int (0 : Int32)) ∧ Fr n0 L ∧ h = h0
set_option maxRecDepth 65536 in
set_option maxHeartbeats 40000000 in
theorem rm_a7_equals (l : Launch) (Z : State) (a0 : Array Value) (hw : ∀ d ∈ tables_1, d.before a0 Z = true) (ws : List Jvm.Cond) (r_FALSE : Addr) (r_TRUE : Addr) (h0 : Heap) (n0 : Nat) (Z0 : n0 ≤ h0.size) (F_FALSE_value : Fld Z h0 r_FALSE "com/example/libsortkey/libsortkey/values/BooleanValue" "value" "Z" (.int (0 : Int32))) (E_TRUE : Exa Z h0 r_TRUE "com/example/libsortkey/libsortkey/values/BooleanValue") (F_TRUE_value : Fld Z h0 r_TRUE "com/example/libsortkey/libsortkey/values/BooleanValue" "value" "Z" (.int (1 : Int32))) :
    MetFree l (⟨"com/example/libsortkey/libsortkey/values/BooleanValue", "equals", "(Ljava/lang/Object;)Z"⟩ : MethodName) (head1 (Jvm.Cond.code (⟨"com/example/libsortkey/libsortkey/values/BooleanValue", "equals", "(Ljava/lang/Object;)Z"⟩ : MethodName) prog_19_method_10_code 2 (some .boolean) :: ws) ({ frames := 0, cells := 0, slots := 0, locals := 0 } : Room)) (fun a U => a = #[(.ref r_FALSE), (.ref r_TRUE)] ∧ Z.Warmed39 U.vm ∧ U.heap = h0) (fun _ _ _ _ _ => True) (fun _ U o U' => ∃ v L, o = .returned v ∧ Q_a7_equals Z h0 n0 v U'.heap L ∧ FrameEnd U o U' L ({ frames := 0, cells := 0, slots := 0, locals := 0 } : Room).cells ({ frames := 0, cells := 0, slots := 0, locals := 0 } : Room).slots) := by
  refine MetFree.of_bodySF (plainFor_of_name own_pn_com_example_libsortkey_libsortkey_values_BooleanValue) hisR ?_
  intro p e s m args below meth c s₁ Bd hml0 hP hK
  obtain ⟨rfl, hZ, hh⟩ := hP
  have hx := Bd.exec
  have hby := Bd.bytes
  have hlk : meth.locks = false := BodyLoose.notSynchronized Bd
  have hml : c.maxLocals = 2 := hml0
  have hown : s.vm.findClass "com/example/libsortkey/libsortkey/values/BooleanValue" = some m.cls := findClass_of_methodNamed Bd.named
  have hnm := (name_of_methodNamed Bd.named Bd.method).1
  have X0 : Stand p l e ({ frames := 0, cells := 0, slots := 0, locals := 0 } : Room) s m #[(.ref r_FALSE), (.ref r_TRUE)] below meth c s₁ [] 0 0 := Stand.of_body Bd
  have e0 : s₁.heap = h0 := by rw [← hh, Bd.state]; rfl
  have N0 := Fr.nil n0
  show own_Go p e below (own_K s (Q_a7_equals Z h0 n0) ({ frames := 0, cells := 0, slots := 0, locals := 0 } : Room).cells ({ frames := 0, cells := 0, slots := 0, locals := 0 } : Room).slots) (s₁.setTop (entryFrame m #[(.ref r_FALSE), (.ref r_TRUE)] 2))
  rw [(by first | (simp [entryFrame, mkF, argsToLocals, Value.category]; done) | rfl : entryFrame m #[(.ref r_FALSE), (.ref r_TRUE)] 2 = mkF m 0 #[.val (.ref r_FALSE), .val (.ref r_TRUE)] [])]
  show own_Go p e below _ (s₁.setTop (mkF m 0 #[.val (.ref r_FALSE), .val (.ref r_TRUE)] []))
  refine own_go (fun _ hr => XS.aloadN X0.here hx rfl (hb hby own_d_prog_19_method_10_code_0) rfl rfl hr) ?_
  show own_Go p e below _ (s₁.setTop (mkF m 1 #[.val (.ref r_FALSE), .val (.ref r_TRUE)] [(.ref r_TRUE)]))
  obtain ⟨T1, X1, e1, st1⟩ := instY X0 hx hZ hown (hw _ (own_m 25 rfl)) e0 (Ins.self E_TRUE) (g := (mkF m 1 #[.val (.ref r_FALSE), .val (.ref r_TRUE)] [(.ref r_TRUE)])) rfl rfl (hb hby own_d_prog_19_method_10_code_1)
  refine own_go st1 ?_
  show own_Go p e below _ (T1.setTop (mkF m 4 #[.val (.ref r_FALSE), .val (.ref r_TRUE)] [(.int (1 : Int32))]))
  refine own_go (fun _ hr => XS.ifNo X1.here hx rfl (hb hby own_d_prog_19_method_10_code_4) rfl ((if0 _ _).trans (feq (by decide)).1) (XS.aloadN X1.here hx rfl (hb hby own_d_prog_19_method_10_code_7) rfl rfl hr)) ?_
  show own_Go p e below _ (T1.setTop (mkF m 8 #[.val (.ref r_FALSE), .val (.ref r_TRUE)] [(.ref r_TRUE)]))
  obtain ⟨T2, X2, e2, st2⟩ := castY X1 hx hZ hown (hw _ (own_m 25 rfl)) e1 (Ins.self E_TRUE) (g := (mkF m 8 #[.val (.ref r_FALSE), .val (.ref r_TRUE)] [(.ref r_TRUE)])) rfl rfl (hb hby own_d_prog_19_method_10_code_8)
  refine own_go st2 ?_
  show own_Go p e below _ (T2.setTop (mkF m 11 #[.val (.ref r_FALSE), .val (.ref r_TRUE)] [(.ref r_TRUE)]))
  obtain ⟨T3, X3, e3, st3⟩ := getF X2 hx hZ hown (host := "") (Or.inl (hw _ (own_m 13 rfl))) Via.refl e2 F_TRUE_value (g := (mkF m 11 #[.val (.ref r_FALSE), .val (.ref r_TRUE)] [(.ref r_TRUE)])) rfl rfl (hb hby own_d_prog_19_method_10_code_11)
  refine own_go st3 ?_
  show own_Go p e below _ (T3.setTop (mkF m 14 #[.val (.ref r_FALSE), .val (.ref r_TRUE)] [(.int (1 : Int32))]))
  refine own_go (fun _ hr => XS.aloadN X3.here hx rfl (hb hby own_d_prog_19_method_10_code_14) rfl rfl hr) ?_
  show own_Go p e below _ (T3.setTop (mkF m 15 #[.val (.ref r_FALSE), .val (.ref r_TRUE)] [(.ref r_FALSE), (.int (1 : Int32))]))
  obtain ⟨T4, X4, e4, st4⟩ := getF X3 hx hZ hown (host := "") (Or.inl (hw _ (own_m 13 rfl))) Via.refl e3 F_FALSE_value (g := (mkF m 15 #[.val (.ref r_FALSE), .val (.ref r_TRUE)] [(.ref r_FALSE), (.int (1 : Int32))])) rfl rfl (hb hby own_d_prog_19_method_10_code_15)
  refine own_go st4 ?_
  show own_Go p e below _ (T4.setTop (mkF m 18 #[.val (.ref r_FALSE), .val (.ref r_TRUE)] [(.int (0 : Int32)), (.int (1 : Int32))]))
  refine own_go (fun _ hr => XS.icmpYes X4.here hx rfl (pc0 := 18) (pc' := 25) rfl (hb hby own_d_prog_19_method_10_code_18) rfl (feq (by decide)).2 (by decide) (by decide) (XS.iconst X4.here hx rfl (hb hby own_d_prog_19_method_10_code_25) hr)) ?_
  show own_Go p e below _ (T4.setTop (mkF m 26 #[.val (.ref r_FALSE), .val (.ref r_TRUE)] [(.int (0 : Int32))]))
  exact own_retN X4 hx hlk Bd.returns (t := .boolean) (by simp) (hb hby own_d_prog_19_method_10_code_26) (by decide) (by decide) ⟨rfl, N0, e4⟩
theorem own_d_prog_19_method_9_code_7 : decode prog_19_method_9_code 7 = .ok (.iconst 1, 1) := by decide +kernel
theorem own_d_prog_19_method_9_code_8 : decode prog_19_method_9_code 8 = .ok (.goto 4, 3) := by decide +kernel
def Q_a8_keyByte (Z : State) (h0 : Heap) (n0 : Nat) (v : Option Value) (h : Heap) (L : List Loc) : Prop := v = some (.int (1 : Int32)) ∧ Fr n0 L ∧ h = h0
set_option maxRecDepth 65536 in
set_option maxHeartbeats 40000000 in
theorem rm_a8_keyByte (l : Launch) (Z : State) (a0 : Array Value) (hw : ∀ d ∈ tables_1, d.before a0 Z = true) (ws : List Jvm.Cond) (r_TRUE : Addr) (h0 : Heap) (n0 : Nat) (Z0 : n0 ≤ h0.size) (F_TRUE_value : Fld Z h0 r_TRUE "com/example/libsortkey/libsortkey/values/BooleanValue" "value" "Z" (.int (1 : Int32))) :
    MetFree l (⟨"com/example/libsortkey/libsortkey/values/BooleanValue", "keyByte", "()B"⟩ : MethodName) (head1 (Jvm.Cond.code (⟨"com/example/libsortkey/libsortkey/values/BooleanValue", "keyByte", "()B"⟩ : MethodName) prog_19_method_9_code 1 (some .byte) :: ws) ({ frames := 0, cells := 0, slots := 0, locals := 0 } : Room)) (fun a U => a = #[(.ref r_TRUE)] ∧ Z.Warmed39 U.vm ∧ U.heap = h0) (fun _ _ _ _ _ => True) (fun _ U o U' => ∃ v L, o = .returned v ∧ Q_a8_keyByte Z h0 n0 v U'.heap L ∧ FrameEnd U o U' L ({ frames := 0, cells := 0, slots := 0, locals := 0 } : Room).cells ({ frames := 0, cells := 0, slots := 0, locals := 0 } : Room).slots) := by
  refine MetFree.of_bodySF (plainFor_of_name own_pn_com_example_libsortkey_libsortkey_values_BooleanValue) hisR ?_
  intro p e s m args below meth c s₁ Bd hml0 hP hK
  obtain ⟨rfl, hZ, hh⟩ := hP
  have hx := Bd.exec
  have hby := Bd.bytes
  have hlk : meth.locks = false := BodyLoose.notSynchronized Bd
  have hml : c.maxLocals = 1 := hml0
  have hown : s.vm.findClass "com/example/libsortkey/libsortkey/values/BooleanValue" = some m.cls := findClass_of_methodNamed Bd.named
  have hnm := (name_of_methodNamed Bd.named Bd.method).1
  have X0 : Stand p l e ({ frames := 0, cells := 0, slots := 0, locals := 0 } : Room) s m #[(.ref r_TRUE)] below meth c s₁ [] 0 0 := Stand.of_body Bd
  have e0 : s₁.heap = h0 := by rw [← hh, Bd.state]; rfl
  have N0 := Fr.nil n0
  show own_Go p e below (own_K s (Q_a8_keyByte Z h0 n0) ({ frames := 0, cells := 0, slots := 0, locals := 0 } : Room).cells ({ frames := 0, cells := 0, slots := 0, locals := 0 } : Room).slots) (s₁.setTop (entryFrame m #[(.ref r_TRUE)] 1))
  rw [(by first | (simp [entryFrame, mkF, argsToLocals, Value.category]; done) | rfl : entryFrame m #[(.ref r_TRUE)] 1 = mkF m 0 #[.val (.ref r_TRUE)] [])]
  show own_Go p e below _ (s₁.setTop (mkF m 0 #[.val (.ref r_TRUE)] []))
  refine own_go (fun _ hr => XS.aloadN X0.here hx rfl (hb hby own_d_prog_19_method_9_code_0) rfl rfl hr) ?_
  show own_Go p e below _ (s₁.setTop (mkF m 1 #[.val (.ref r_TRUE)] [(.ref r_TRUE)]))
  obtain ⟨T1, X1, e1, st1⟩ := getF X0 hx hZ hown (host := "") (Or.inl (hw _ (own_m 13 rfl))) Via.refl e0 F_TRUE_value (g := (mkF m 1 #[.val (.ref r_TRUE)] [(.ref r_TRUE)])) rfl rfl (hb hby own_d_prog_19_method_9_code_1)
  refine own_go st1 ?_
  show own_Go p e below _ (T1.setTop (mkF m 4 #[.val (.ref r_TRUE)] [(.int (1 : Int32))]))
  refine own_go (fun _ hr => XS.ifNo X1.here hx rfl (hb hby own_d_prog_19_method_9_code_4) rfl ((if0 _ _).trans (feq (by decide)).1) (XS.iconst X1.here hx rfl (hb hby own_d_prog_19_method_9_code_7) (XS.goto X1.here hx rfl (pc0 := 8) (pc' := 12) rfl (hb hby own_d_prog_19_method_9_code_8) (by decide) (by decide) (XS.i2b X1.here hx rfl (hb hby own_d_prog_19_method_9_code_12) rfl hr)))) ?_
  show own_Go p e below _ (T1.setTop (mkF m 13 #[.val (.ref r_TRUE)] [(.int (1 : Int32))]))
  exact own_retN X1 hx hlk Bd.returns (t := .byte) (by simp) (hb hby own_d_prog_19_method_9_code_13) (by decide) (by decide) ⟨rfl, N0, e1⟩
def Q_a9_equals (Z : State) (h0 : Heap) (n0 : Nat) (v : Option Value) (h : Heap) (L : List Loc) : Prop := v = some (.int (0 : Int32)) ∧ Fr n0 L ∧ h = h0
set_option maxRecDepth 65536 in
set_option maxHeartbeats 40000000 in
theorem rm_a9_equals (l : Launch) (Z : State) (a0 : Array Value) (hw : ∀ d ∈ tables_1, d.before a0 Z = true) (ws : List Jvm.Cond) (r_FALSE : Addr) (r_TRUE : Addr) (h0 : Heap) (n0 : Nat) (Z0 : n0 ≤ h0.size) (E_FALSE : Exa Z h0 r_FALSE "com/example/libsortkey/libsortkey/values/BooleanValue") (F_FALSE_value : Fld Z h0 r_FALSE "com/example/libsortkey/libsortkey/values/BooleanValue" "value" "Z" (.int (0 : Int32))) (F_TRUE_value : Fld Z h0 r_TRUE "com/example/libsortkey/libsortkey/values/BooleanValue" "value" "Z" (.int (1 : Int32))) :
    MetFree l (⟨"com/example/libsortkey/libsortkey/values/BooleanValue", "equals", "(Ljava/lang/Object;)Z"⟩ : MethodName) (head1 (Jvm.Cond.code (⟨"com/example/libsortkey/libsortkey/values/BooleanValue", "equals", "(Ljava/lang/Object;)Z"⟩ : MethodName) prog_19_method_10_code 2 (some .boolean) :: ws) ({ frames := 0, cells := 0, slots := 0, locals := 0 } : Room)) (fun a U => a = #[(.ref r_TRUE), (.ref r_FALSE)] ∧ Z.Warmed39 U.vm ∧ U.heap = h0) (fun _ _ _ _ _ => True) (fun _ U o U' => ∃ v L, o = .returned v ∧ Q_a9_equals Z h0 n0 v U'.heap L ∧ FrameEnd U o U' L ({ frames := 0, cells := 0, slots := 0, locals := 0 } : Room).cells ({ frames := 0, cells := 0, slots := 0, locals := 0 } : Room).slots) := by
  refine MetFree.of_bodySF (plainFor_of_name own_pn_com_example_libsortkey_libsortkey_values_BooleanValue) hisR ?_
  intro p e s m args below meth c s₁ Bd hml0 hP hK
  obtain ⟨rfl, hZ, hh⟩ := hP
  have hx := Bd.exec
  have hby := Bd.bytes
  have hlk : meth.locks = false := BodyLoose.notSynchronized Bd
  have hml : c.maxLocals = 2 := hml0
  have hown : s.vm.findClass "com/example/libsortkey/libsortkey/values/BooleanValue" = some m.cls := findClass_of_methodNamed Bd.named
  have hnm := (name_of_methodNamed Bd.named Bd.method).1
  have X0 : Stand p l e ({ frames := 0, cells := 0, slots := 0, locals := 0 } : Room) s m #[(.ref r_TRUE), (.ref r_FALSE)] below meth c s₁ [] 0 0 := Stand.of_body Bd
  have e0 : s₁.heap = h0 := by rw [← hh, Bd.state]; rfl
  have N0 := Fr.nil n0
  show own_Go p e below (own_K s (Q_a9_equals Z h0 n0) ({ frames := 0, cells := 0, slots := 0, locals := 0 } : Room).cells ({ frames := 0, cells := 0, slots := 0, locals := 0 } : Room).slots) (s₁.setTop (entryFrame m #[(.ref r_TRUE), (.ref r_FALSE)] 2))
  rw [(by first | (simp [entryFrame, mkF, argsToLocals, Value.category]; done) | rfl : entryFrame m #[(.ref r_TRUE), (.ref r_FALSE)] 2 = mkF m 0 #[.val (.ref r_TRUE), .val (.ref r_FALSE)] [])]
  show own_Go p e below _ (s₁.setTop (mkF m 0 #[.val (.ref r_TRUE), .val (.ref r_FALSE)] []))
  refine own_go (fun _ hr => XS.aloadN X0.here hx rfl (hb hby own_d_prog_19_method_10_code_0) rfl rfl hr) ?_
  show own_Go p e below _ (s₁.setTop (mkF m 1 #[.val (.ref r_TRUE), .val (.ref r_FALSE)] [(.ref r_FALSE)]))
  obtain ⟨T1, X1, e1, st1⟩ := instY X0 hx hZ hown (hw _ (own_m 25 rfl)) e0 (Ins.self E_FALSE) (g := (mkF m 1 #[.val (.ref r_TRUE), .val (.ref r_FALSE)] [(.ref r_FALSE)])) rfl rfl (hb hby own_d_prog_19_method_10_code_1)
  refine own_go st1 ?_
  show own_Go p e below _ (T1.setTop (mkF m 4 #[.val (.ref r_TRUE), .val (.ref r_FALSE)] [(.int (1 : Int32))]))
  refine own_go (fun _ hr => XS.ifNo X1.here hx rfl (hb hby own_d_prog_19_method_10_code_4) rfl ((if0 _ _).trans (feq (by decide)).1) (XS.aloadN X1.here hx rfl (hb hby own_d_prog_19_method_10_code_7) rfl rfl hr)) ?_
  show own_Go p e below _ (T1.setTop (mkF m 8 #[.val (.ref r_TRUE), .val (.ref r_FALSE)] [(.ref r_FALSE)]))
  obtain ⟨T2, X2, e2, st2⟩ := castY X1 hx hZ hown (hw _ (own_m 25 rfl)) e1 (Ins.self E_FALSE) (g := (mkF m 8 #[.val (.ref r_TRUE), .val (.ref r_FALSE)] [(.ref r_FALSE)])) rfl rfl (hb hby own_d_prog_19_method_10_code_8)
  refine own_go st2 ?_
  show own_Go p e below _ (T2.setTop (mkF m 11 #[.val (.ref r_TRUE), .val (.ref r_FALSE)] [(.ref r_FALSE)]))
  obtain ⟨T3, X3, e3, st3⟩ := getF X2 hx hZ hown (host := "") (Or.inl (hw _ (own_m 13 rfl))) Via.refl e2 F_FALSE_value (g := (mkF m 11 #[.val (.ref r_TRUE), .val (.ref r_FALSE)] [(.ref r_FALSE)])) rfl rfl (hb hby own_d_prog_19_method_10_code_11)
  refine own_go st3 ?_
  show own_Go p e below _ (T3.setTop (mkF m 14 #[.val (.ref r_TRUE), .val (.ref r_FALSE)] [(.int (0 : Int32))]))
  refine own_go (fun _ hr => XS.aloadN X3.here hx rfl (hb hby own_d_prog_19_method_10_code_14) rfl rfl hr) ?_
  show own_Go p e below _ (T3.setTop (mkF m 15 #[.val (.ref r_TRUE), .val (.ref r_FALSE)] [(.ref r_TRUE), (.int (0 : Int32))]))
  obtain ⟨T4, X4, e4, st4⟩ := getF X3 hx hZ hown (host := "") (Or.inl (hw _ (own_m 13 rfl))) Via.refl e3 F_TRUE_value (g := (mkF m 15 #[.val (.ref r_TRUE), .val (.ref r_FALSE)] [(.ref r_TRUE), (.int (0 : Int32))])) rfl rfl (hb hby own_d_prog_19_method_10_code_15)
  refine own_go st4 ?_
  show own_Go p e below _ (T4.setTop (mkF m 18 #[.val (.ref r_TRUE), .val (.ref r_FALSE)] [(.int (1 : Int32)), (.int (0 : Int32))]))
  refine own_go (fun _ hr => XS.icmpYes X4.here hx rfl (pc0 := 18) (pc' := 25) rfl (hb hby own_d_prog_19_method_10_code_18) rfl (feq (by decide)).2 (by decide) (by decide) (XS.iconst X4.here hx rfl (hb hby own_d_prog_19_method_10_code_25) hr)) ?_
  show own_Go p e below _ (T4.setTop (mkF m 26 #[.val (.ref r_TRUE), .val (.ref r_FALSE)] [(.int (0 : Int32))]))
  exact own_retN X4 hx hlk Bd.returns (t := .boolean) (by simp) (hb hby own_d_prog_19_method_10_code_26) (by decide) (by decide) ⟨rfl, N0, e4⟩
def Q_a10_equals (Z : State) (h0 : Heap) (n0 : Nat) (v : Option Value) (h : Heap) (L : List Loc) : Prop := v = some (.int (1 : Int32)) ∧ Fr n0 L ∧ h = h0
set_option maxRecDepth 65536 in
set_option maxHeartbeats 40000000 in
theorem rm_a10_equals (l : Launch) (Z : State) (a0 : Array Value) (hw : ∀ d ∈ tables_1, d.before a0 Z = true) (ws : List Jvm.Cond) (r_TRUE : Addr) (h0 : Heap) (n0 : Nat) (Z0 : n0 ≤ h0.size) (E_TRUE : Exa Z h0 r_TRUE "com/example/libsortkey/libsortkey/values/BooleanValue") (F_TRUE_value : Fld Z h0 r_TRUE "com/example/libsortkey/libsortkey/values/BooleanValue" "value" "Z" (.int (1 : Int32))) :
    MetFree l (⟨"com/example/libsortkey/libsortkey/values/BooleanValue", "equals", "(Ljava/lang/Object;)Z"⟩ : MethodName) (head1 (Jvm.Cond.code (⟨"com/example/libsortkey/libsortkey/values/BooleanValue", "equals", "(Ljava/lang/Object;)Z"⟩ : MethodName) prog_19_method_10_code 2 (some .boolean) :: ws) ({ frames := 0, cells := 0, slots := 0, locals := 0 } : Room)) (fun a U => a = #[(.ref r_TRUE), (.ref r_TRUE)] ∧ Z.Warmed39 U.vm ∧ U.heap = h0) (fun _ _ _ _ _ => True) (fun _ U o U' => ∃ v L, o = .returned v ∧ Q_a10_equals Z h0 n0 v U'.heap L ∧ FrameEnd U o U' L ({ frames := 0, cells := 0, slots := 0, locals := 0 } : Room).cells ({ frames := 0, cells := 0, slots := 0, locals := 0 } : Room).slots) := by
  refine MetFree.of_bodySF (plainFor_of_name own_pn_com_example_libsortkey_libsortkey_values_BooleanValue) hisR ?_
  intro p e s m args below meth c s₁ Bd hml0 hP hK
  obtain ⟨rfl, hZ, hh⟩ := hP
  have hx := Bd.exec
  have hby := Bd.bytes
  have hlk : meth.locks = false := BodyLoose.notSynchronized Bd
  have hml : c.maxLocals = 2 := hml0
  have hown : s.vm.findClass "com/example/libsortkey/libsortkey/values/BooleanValue" = some m.cls := findClass_of_methodNamed Bd.named
  have hnm := (name_of_methodNamed Bd.named Bd.method).1
  have X0 : Stand p l e ({ frames := 0, cells := 0, slots := 0, locals := 0 } : Room) s m #[(.ref r_TRUE), (.ref r_TRUE)] below meth c s₁ [] 0 0 := Stand.of_body Bd
  have e0 : s₁.heap = h0 := by rw [← hh, Bd.state]; rfl
  have N0 := Fr.nil n0
  show own_Go p e below (own_K s (Q_a10_equals Z h0 n0) ({ frames := 0, cells := 0, slots := 0, locals := 0 } : Room).cells ({ frames := 0, cells := 0, slots := 0, locals := 0 } : Room).slots) (s₁.setTop (entryFrame m #[(.ref r_TRUE), (.ref r_TRUE)] 2))
  rw [(by first | (simp [entryFrame, mkF, argsToLocals, Value.category]; done) | rfl : entryFrame m #[(.ref r_TRUE), (.ref r_TRUE)] 2 = mkF m 0 #[.val (.ref r_TRUE), .val (.ref r_TRUE)] [])]
  show own_Go p e below _ (s₁.setTop (mkF m 0 #[.val (.ref r_TRUE), .val (.ref r_TRUE)] []))
  refine own_go (fun _ hr => XS.aloadN X0.here hx rfl (hb hby own_d_prog_19_method_10_code_0) rfl rfl hr) ?_
  show own_Go p e below _ (s₁.setTop (mkF m 1 #[.val (.ref r_TRUE), .val (.ref r_TRUE)] [(.ref r_TRUE)]))
  obtain ⟨T1, X1, e1, st1⟩ := instY X0 hx hZ hown (hw _ (own_m 25 rfl)) e0 (Ins.self E_TRUE) (g := (mkF m 1 #[.val (.ref r_TRUE), .val (.ref r_TRUE)] [(.ref r_TRUE)])) rfl rfl (hb hby own_d_prog_19_method_10_code_1)
  refine own_go st1 ?_
  show own_Go p e below _ (T1.setTop (mkF m 4 #[.val (.ref r_TRUE), .val (.ref r_TRUE)] [(.int (1 : Int32))]))
  refine own_go (fun _ hr => XS.ifNo X1.here hx rfl (hb hby own_d_prog_19_method_10_code_4) rfl ((if0 _ _).trans (feq (by decide)).1) (XS.aloadN X1.here hx rfl (hb hby own_d_prog_19_method_10_code_7) rfl rfl hr)) ?_
  show own_Go p e below _ (T1.setTop (mkF m 8 #[.val (.ref r_TRUE), .val (.ref r_TRUE)] [(.ref r_TRUE)]))
  obtain ⟨T2, X2, e2, st2⟩ := castY X1 hx hZ hown (hw _ (own_m 25 rfl)) e1 (Ins.self E_TRUE) (g := (mkF m 8 #[.val (.ref r_TRUE), .val (.ref r_TRUE)] [(.ref r_TRUE)])) rfl rfl (hb hby own_d_prog_19_method_10_code_8)
  refine own_go st2 ?_
  show own_Go p e below _ (T2.setTop (mkF m 11 #[.val (.ref r_TRUE), .val (.ref r_TRUE)] [(.ref r_TRUE)]))
  obtain ⟨T3, X3, e3, st3⟩ := getF X2 hx hZ hown (host := "") (Or.inl (hw _ (own_m 13 rfl))) Via.refl e2 F_TRUE_value (g := (mkF m 11 #[.val (.ref r_TRUE), .val (.ref r_TRUE)] [(.ref r_TRUE)])) rfl rfl (hb hby own_d_prog_19_method_10_code_11)
  refine own_go st3 ?_
  show own_Go p e below _ (T3.setTop (mkF m 14 #[.val (.ref r_TRUE), .val (.ref r_TRUE)] [(.int (1 : Int32))]))
  refine own_go (fun _ hr => XS.aloadN X3.here hx rfl (hb hby own_d_prog_19_method_10_code_14) rfl rfl hr) ?_
  show own_Go p e below _ (T3.setTop (mkF m 15 #[.val (.ref r_TRUE), .val (.ref r_TRUE)] [(.ref r_TRUE), (.int (1 : Int32))]))
  obtain ⟨T4, X4, e4, st4⟩ := getF X3 hx hZ hown (host := "") (Or.inl (hw _ (own_m 13 rfl))) Via.refl e3 F_TRUE_value (g := (mkF m 15 #[.val (.ref r_TRUE), .val (.ref r_TRUE)] [(.ref r_TRUE), (.int (1 : Int32))])) rfl rfl (hb hby own_d_prog_19_method_10_code_15)
  refine own_go st4 ?_
  show own_Go p e below _ (T4.setTop (mkF m 18 #[.val (.ref r_TRUE), .val (.ref r_TRUE)] [(.int (1 : Int32)), (.int (1 : Int32))]))
  refine own_go (fun _ hr => XS.icmpNo X4.here hx rfl (hb hby own_d_prog_19_method_10_code_18) rfl (teq (by decide)).2 (XS.iconst X4.here hx rfl (hb hby own_d_prog_19_method_10_code_21) (XS.goto X4.here hx rfl (pc0 := 22) (pc' := 26) rfl (hb hby own_d_prog_19_method_10_code_22) (by decide) (by decide) hr))) ?_
  show own_Go p e below _ (T4.setTop (mkF m 26 #[.val (.ref r_TRUE), .val (.ref r_TRUE)] [(.int (1 : Int32))]))
  exact own_retN X4 hx hlk Bd.returns (t := .boolean) (by simp) (hb hby own_d_prog_19_method_10_code_26) (by decide) (by decide) ⟨rfl, N0, e4⟩
theorem own_pn_com_example_libsortkey_libsortkey_values_BooleanValueOfPinLaw : plainName "com/example/libsortkey/libsortkey/values/BooleanValueOfPinLaw" = true := by first | (simp [plainName, overriddenIn]; done) | decide +kernel
def Q_law (Z : State) (h0 : Heap) (n0 : Nat) (v : Option Value) (h : Heap) (L : List Loc) : Prop := v = some (.int 1) ∧ Fr n0 L
set_option maxRecDepth 65536 in
set_option maxHeartbeats 40000000 in
theorem rm_law (l : Launch) (Z : State) (a0 : Array Value) (hw : ∀ d ∈ tables_1, d.before a0 Z = true) (ws : List Jvm.Cond) (x0 : Int32) (x1 : Int32) (r_FALSE : Addr) (r_TRUE : Addr) (h0 : Heap) (n0 : Nat) (Z0 : n0 ≤ h0.size) (S_FALSE : Sta Z h0 "com/example/libsortkey/libsortkey/values/BooleanValue" "FALSE" "Lcom/example/libsortkey/libsortkey/values/BooleanValue;" (.ref r_FALSE)) (E_FALSE : Exa Z h0 r_FALSE "com/example/libsortkey/libsortkey/values/BooleanValue") (F_FALSE_value : Fld Z h0 r_FALSE "com/example/libsortkey/libsortkey/values/BooleanValue" "value" "Z" (.int (0 : Int32))) (S_TRUE : Sta Z h0 "com/example/libsortkey/libsortkey/values/BooleanValue" "TRUE" "Lcom/example/libsortkey/libsortkey/values/BooleanValue;" (.ref r_TRUE)) (E_TRUE : Exa Z h0 r_TRUE "com/example/libsortkey/libsortkey/values/BooleanValue") (F_TRUE_value : Fld Z h0 r_TRUE "com/example/libsortkey/libsortkey/values/BooleanValue" "value" "Z" (.int (1 : Int32))) :
    MetFree l x (head1 (Jvm.Cond.code x code maxLocals ret :: ws) room_1) (fun a U => a = #[(.int x0), (.int x1)] ∧ Z.Warmed39 U.vm ∧ U.heap = h0) (fun _ _ _ _ _ => True) (fun _ U o U' => ∃ v L, o = .returned v ∧ Q_law Z h0 n0 v U'.heap L ∧ FrameEnd U o U' L room_1.cells room_1.slots) := by
  refine MetFree.of_bodySF (plainFor_of_name own_pn_com_example_libsortkey_libsortkey_values_BooleanValueOfPinLaw) hisR ?_
  intro p e s m args below meth c s₁ Bd hml0 hP hK
  obtain ⟨rfl, hZ, hh⟩ := hP
  have hx := Bd.exec
  have hby := Bd.bytes
  have hlk : meth.locks = false := BodyLoose.notSynchronized Bd
  have hml : c.maxLocals = 7 := hml0
  have hown : s.vm.findClass "com/example/libsortkey/libsortkey/values/BooleanValueOfPinLaw" = some m.cls := findClass_of_methodNamed Bd.named
  have hnm := (name_of_methodNamed Bd.named Bd.method).1
  have X0 : Stand p l e room_1 s m #[(.int x0), (.int x1)] below meth c s₁ [] 0 0 := Stand.of_body Bd
  have e0 : s₁.heap = h0 := by rw [← hh, Bd.state]; rfl
  have N0 := Fr.nil n0
  show own_Go p e below (own_K s (Q_law Z h0 n0) room_1.cells room_1.slots) (s₁.setTop (entryFrame m #[(.int x0), (.int x1)] maxLocals))
  rw [(by first | (simp [entryFrame, mkF, argsToLocals, Value.category, maxLocals]; done) | rfl : entryFrame m #[(.int x0), (.int x1)] maxLocals = mkF m 0 #[.val (.int x0), .val (.int x1), .unset, .unset, .unset, .unset, .unset] [])]
  show own_Go p e below _ (s₁.setTop (mkF m 0 #[.val (.int x0), .val (.int x1), .unset, .unset, .unset, .unset, .unset] []))
  refine own_go (fun _ hr => XS.iloadN X0.here hx rfl (hb hby at_0) rfl (XS.iconst X0.here hx rfl (hb hby at_1) (XS.iand X0.here hx rfl (hb hby at_2) rfl hr))) ?_
  show own_Go p e below _ (s₁.setTop (mkF m 3 #[.val (.int x0), .val (.int x1), .unset, .unset, .unset, .unset, .unset] [(.int (x0 &&& (1 : Int32)))]))
  by_cases c1 : (x0 &&& (1 : Int32)) = (0 : Int32)
  · refine own_go (fun _ hr => XS.ifYes X0.here hx rfl (pc0 := 3) (pc' := 10) rfl (hb hby at_3) rfl ((if0 _ _).trans (teq c1).1) (by decide) (by decide) hr) ?_
    show own_Go p e below _ (s₁.setTop (mkF m 10 #[.val (.int x0), .val (.int x1), .unset, .unset, .unset, .unset, .unset] []))
    refine own_go (fun _ hr => XS.iconst X0.here hx rfl (hb hby at_10) (XS.istoreN X0.here hx rfl (hb hby at_11) rfl (l' := #[.val (.int x0), .val (.int x1), .val (.int (0 : Int32)), .unset, .unset, .unset, .unset]) rfl (XS.iloadN X0.here hx rfl (hb hby at_12) rfl (XS.iconst X0.here hx rfl (hb hby at_13) (XS.iand X0.here hx rfl (hb hby at_14) rfl hr))))) ?_
    show own_Go p e below _ (s₁.setTop (mkF m 15 #[.val (.int x0), .val (.int x1), .val (.int (0 : Int32)), .unset, .unset, .unset, .unset] [(.int (x1 &&& (1 : Int32)))]))
    by_cases c2 : (x1 &&& (1 : Int32)) = (0 : Int32)
    · refine own_go (fun _ hr => XS.ifYes X0.here hx rfl (pc0 := 15) (pc' := 22) rfl (hb hby at_15) rfl ((if0 _ _).trans (teq c2).1) (by decide) (by decide) hr) ?_
      show own_Go p e below _ (s₁.setTop (mkF m 22 #[.val (.int x0), .val (.int x1), .val (.int (0 : Int32)), .unset, .unset, .unset, .unset] []))
      refine own_go (fun _ hr => XS.iconst X0.here hx rfl (hb hby at_22) (XS.istoreN X0.here hx rfl (hb hby at_23) rfl (l' := #[.val (.int x0), .val (.int x1), .val (.int (0 : Int32)), .val (.int (0 : Int32)), .unset, .unset, .unset]) rfl (XS.iloadN X0.here hx rfl (hb hby at_24) rfl hr))) ?_
      show own_Go p e below _ (s₁.setTop (mkF m 25 #[.val (.int x0), .val (.int x1), .val (.int (0 : Int32)), .val (.int (0 : Int32)), .unset, .unset, .unset] [(.int (0 : Int32))]))
      refine own_cs X0 hx hZ hown (hw _ (own_m 0 rfl)) (hw _ (own_m 1 rfl)) (hw _ (own_m 2 rfl)) (hw _ (own_m 3 rfl)) (by decide) (rm := { frames := 0, cells := 0, slots := 0, locals := 0 }) (rm_a1_of l Z a0 hw [] r_FALSE h0 n0 Z0 S_FALSE) (by decide) (W := 0) (by decide) (by decide) (by decide) e0 (by rw [hml]; rfl) (argsL := [(.int (0 : Int32))]) (lenOf own_pd0 rfl) (rest := []) rfl rfl (Nat.le_of_eq rfl) (hb hby at_25) ?_
      intro _ T3 L3 X3 hQ3
      obtain ⟨rfl, N3q, e3⟩ := hQ3
      have N3 := Fr.app N0 N3q
      show own_Go p e below _ (T3.setTop (mkF m 28 #[.val (.int x0), .val (.int x1), .val (.int (0 : Int32)), .val (.int (0 : Int32)), .unset, .unset, .unset] [(.ref r_FALSE)]))
      refine own_go (fun _ hr => XS.astore X3.here hx rfl (hb hby at_28) rfl rfl (l' := #[.val (.int x0), .val (.int x1), .val (.int (0 : Int32)), .val (.int (0 : Int32)), .val (.ref r_FALSE), .unset, .unset]) rfl (XS.iloadN X3.here hx rfl (hb hby at_30) rfl hr)) ?_
      show own_Go p e below _ (T3.setTop (mkF m 31 #[.val (.int x0), .val (.int x1), .val (.int (0 : Int32)), .val (.int (0 : Int32)), .val (.ref r_FALSE), .unset, .unset] [(.int (0 : Int32))]))
      refine own_cs X3 hx hZ hown (hw _ (own_m 0 rfl)) (hw _ (own_m 1 rfl)) (hw _ (own_m 2 rfl)) (hw _ (own_m 3 rfl)) (by decide) (rm := { frames := 0, cells := 0, slots := 0, locals := 0 }) (rm_a1_of l Z a0 hw [] r_FALSE h0 n0 Z0 S_FALSE) (by decide) (W := 0) (by decide) (by decide) (by decide) e3 (by rw [hml]; rfl) (argsL := [(.int (0 : Int32))]) (lenOf own_pd0 rfl) (rest := []) rfl rfl (Nat.le_of_eq rfl) (hb hby at_31) ?_
      intro _ T4 L4 X4 hQ4
      obtain ⟨rfl, N4q, e4⟩ := hQ4
      have N4 := Fr.app N3 N4q
      show own_Go p e below _ (T4.setTop (mkF m 34 #[.val (.int x0), .val (.int x1), .val (.int (0 : Int32)), .val (.int (0 : Int32)), .val (.ref r_FALSE), .unset, .unset] [(.ref r_FALSE)]))
      refine own_go (fun _ hr => XS.astore X4.here hx rfl (hb hby at_34) rfl rfl (l' := #[.val (.int x0), .val (.int x1), .val (.int (0 : Int32)), .val (.int (0 : Int32)), .val (.ref r_FALSE), .val (.ref r_FALSE), .unset]) rfl (XS.aload X4.here hx rfl (hb hby at_36) rfl rfl hr)) ?_
      show own_Go p e below _ (T4.setTop (mkF m 38 #[.val (.int x0), .val (.int x1), .val (.int (0 : Int32)), .val (.int (0 : Int32)), .val (.ref r_FALSE), .val (.ref r_FALSE), .unset] [(.ref r_FALSE)]))
      refine own_go (fun _ hr => XS.ifnullNo X4.here hx rfl (hb hby at_38) rfl hr) ?_
      show own_Go p e below _ (T4.setTop (mkF m 41 #[.val (.int x0), .val (.int x1), .val (.int (0 : Int32)), .val (.int (0 : Int32)), .val (.ref r_FALSE), .val (.ref r_FALSE), .unset] []))
      refine own_go (fun _ hr => XS.aload X4.here hx rfl (hb hby at_41) rfl rfl hr) ?_
      show own_Go p e below _ (T4.setTop (mkF m 43 #[.val (.int x0), .val (.int x1), .val (.int (0 : Int32)), .val (.int (0 : Int32)), .val (.ref r_FALSE), .val (.ref r_FALSE), .unset] [(.ref r_FALSE)]))
      refine own_go (fun _ hr => XS.ifnonnullYes X4.here hx rfl (pc0 := 43) (pc' := 48) rfl (hb hby at_43) rfl (by decide) (by decide) hr) ?_
      show own_Go p e below _ (T4.setTop (mkF m 48 #[.val (.int x0), .val (.int x1), .val (.int (0 : Int32)), .val (.int (0 : Int32)), .val (.ref r_FALSE), .val (.ref r_FALSE), .unset] []))
      refine own_go (fun _ hr => XS.aload X4.here hx rfl (hb hby at_48) rfl rfl hr) ?_
      show own_Go p e below _ (T4.setTop (mkF m 50 #[.val (.int x0), .val (.int x1), .val (.int (0 : Int32)), .val (.int (0 : Int32)), .val (.ref r_FALSE), .val (.ref r_FALSE), .unset] [(.ref r_FALSE)]))
      refine own_cv X4 hx hZ hown (notFace_of_selects (args := #[]) (mvT hZ (hw _ (own_m 11 rfl)))) (hw _ (own_m 8 rfl)) (hw _ (own_m 9 rfl)) (hw _ (own_m 11 rfl)) (hw _ (own_m 10 rfl)) (hw _ (own_m 2 rfl)) (hw _ (own_m 12 rfl)) (by decide) E_FALSE (rm := { frames := 0, cells := 0, slots := 0, locals := 0 }) (rm_a2_value l Z a0 hw [] r_FALSE h0 n0 Z0 F_FALSE_value) (by decide) (W := 0) (by decide) (by decide) (by decide) e4 (by rw [hml]; rfl) (argsL := []) (lenOf own_pd1 rfl) (rest := []) rfl rfl (Nat.le_of_eq rfl) (hb hby at_50) ?_
      intro _ T5 L5 X5 hQ5
      obtain ⟨rfl, N5q, e5⟩ := hQ5
      have N5 := Fr.app N4 N5q
      show own_Go p e below _ (T5.setTop (mkF m 53 #[.val (.int x0), .val (.int x1), .val (.int (0 : Int32)), .val (.int (0 : Int32)), .val (.ref r_FALSE), .val (.ref r_FALSE), .unset] [(.int (0 : Int32))]))
      refine own_go (fun _ hr => XS.iloadN X5.here hx rfl (hb hby at_53) rfl (XS.icmpYes X5.here hx rfl (pc0 := 54) (pc' := 59) rfl (hb hby at_54) rfl (teq (by decide)).1 (by decide) (by decide) (XS.aload X5.here hx rfl (hb hby at_59) rfl rfl hr))) ?_
      show own_Go p e below _ (T5.setTop (mkF m 61 #[.val (.int x0), .val (.int x1), .val (.int (0 : Int32)), .val (.int (0 : Int32)), .val (.ref r_FALSE), .val (.ref r_FALSE), .unset] [(.ref r_FALSE)]))
      refine own_cv X5 hx hZ hown (notFace_of_selects (args := #[]) (mvT hZ (hw _ (own_m 11 rfl)))) (hw _ (own_m 8 rfl)) (hw _ (own_m 9 rfl)) (hw _ (own_m 11 rfl)) (hw _ (own_m 10 rfl)) (hw _ (own_m 2 rfl)) (hw _ (own_m 12 rfl)) (by decide) E_FALSE (rm := { frames := 0, cells := 0, slots := 0, locals := 0 }) (rm_a2_value l Z a0 hw [] r_FALSE h0 n0 Z0 F_FALSE_value) (by decide) (W := 0) (by decide) (by decide) (by decide) e5 (by rw [hml]; rfl) (argsL := []) (lenOf own_pd1 rfl) (rest := []) rfl rfl (Nat.le_of_eq rfl) (hb hby at_61) ?_
      intro _ T6 L6 X6 hQ6
      obtain ⟨rfl, N6q, e6⟩ := hQ6
      have N6 := Fr.app N5 N6q
      show own_Go p e below _ (T6.setTop (mkF m 64 #[.val (.int x0), .val (.int x1), .val (.int (0 : Int32)), .val (.int (0 : Int32)), .val (.ref r_FALSE), .val (.ref r_FALSE), .unset] [(.int (0 : Int32))]))
      refine own_go (fun _ hr => XS.iloadN X6.here hx rfl (hb hby at_64) rfl (XS.icmpYes X6.here hx rfl (pc0 := 65) (pc' := 70) rfl (hb hby at_65) rfl (teq (by decide)).1 (by decide) (by decide) (XS.iloadN X6.here hx rfl (hb hby at_70) rfl (XS.ifYes X6.here hx rfl (pc0 := 71) (pc' := 78) rfl (hb hby at_71) rfl ((if0 _ _).trans (teq (by decide)).1) (by decide) (by decide) (XS.iconst X6.here hx rfl (hb hby at_78) (XS.istore X6.here hx rfl (hb hby at_79) rfl (l' := #[.val (.int x0), .val (.int x1), .val (.int (0 : Int32)), .val (.int (0 : Int32)), .val (.ref r_FALSE), .val (.ref r_FALSE), .val (.int (0 : Int32))]) rfl (XS.aload X6.here hx rfl (hb hby at_81) rfl rfl hr))))))) ?_
      show own_Go p e below _ (T6.setTop (mkF m 83 #[.val (.int x0), .val (.int x1), .val (.int (0 : Int32)), .val (.int (0 : Int32)), .val (.ref r_FALSE), .val (.ref r_FALSE), .val (.int (0 : Int32))] [(.ref r_FALSE)]))
      refine own_cv X6 hx hZ hown (notFace_of_selects (args := #[]) (mvT hZ (hw _ (own_m 18 rfl)))) (hw _ (own_m 15 rfl)) (hw _ (own_m 16 rfl)) (hw _ (own_m 18 rfl)) (hw _ (own_m 17 rfl)) (hw _ (own_m 2 rfl)) (hw _ (own_m 19 rfl)) (by decide) E_FALSE (rm := { frames := 0, cells := 0, slots := 0, locals := 0 }) (rm_a3_keyByte l Z a0 hw [] r_FALSE h0 n0 Z0 F_FALSE_value) (by decide) (W := 0) (by decide) (by decide) (by decide) e6 (by rw [hml]; rfl) (argsL := []) (lenOf own_pd2 rfl) (rest := []) rfl rfl (Nat.le_of_eq rfl) (hb hby at_83) ?_
      intro _ T7 L7 X7 hQ7
      obtain ⟨rfl, N7q, e7⟩ := hQ7
      have N7 := Fr.app N6 N7q
      show own_Go p e below _ (T7.setTop (mkF m 86 #[.val (.int x0), .val (.int x1), .val (.int (0 : Int32)), .val (.int (0 : Int32)), .val (.ref r_FALSE), .val (.ref r_FALSE), .val (.int (0 : Int32))] [(.int (0 : Int32))]))
      refine own_go (fun _ hr => XS.iload X7.here hx rfl (hb hby at_86) rfl (XS.i2b X7.here hx rfl (hb hby at_88) rfl (XS.icmpYes X7.here hx rfl (pc0 := 89) (pc' := 94) rfl (hb hby at_89) rfl (teq (by decide)).1 (by decide) (by decide) (XS.aload X7.here hx rfl (hb hby at_94) rfl rfl (XS.aload X7.here hx rfl (hb hby at_96) rfl rfl hr))))) ?_
      show own_Go p e below _ (T7.setTop (mkF m 98 #[.val (.int x0), .val (.int x1), .val (.int (0 : Int32)), .val (.int (0 : Int32)), .val (.ref r_FALSE), .val (.ref r_FALSE), .val (.int (0 : Int32))] [(.ref r_FALSE), (.ref r_FALSE)]))
      refine own_cv X7 hx hZ hown (notFace_of_selects (args := #[]) (mvT hZ (hw _ (own_m 23 rfl)))) (hw _ (own_m 20 rfl)) (hw _ (own_m 21 rfl)) (hw _ (own_m 23 rfl)) (hw _ (own_m 22 rfl)) (hw _ (own_m 2 rfl)) (hw _ (own_m 24 rfl)) (by decide) E_FALSE (rm := { frames := 0, cells := 0, slots := 0, locals := 0 }) (rm_a4_equals l Z a0 hw [] r_FALSE h0 n0 Z0 E_FALSE F_FALSE_value) (by decide) (W := 0) (by decide) (by decide) (by decide) e7 (by rw [hml]; rfl) (argsL := [(.ref r_FALSE)]) (lenOf own_pd3 rfl) (rest := []) rfl rfl (Nat.le_of_eq rfl) (hb hby at_98) ?_
      intro _ T8 L8 X8 hQ8
      obtain ⟨rfl, N8q, e8⟩ := hQ8
      have N8 := Fr.app N7 N8q
      show own_Go p e below _ (T8.setTop (mkF m 101 #[.val (.int x0), .val (.int x1), .val (.int (0 : Int32)), .val (.int (0 : Int32)), .val (.ref r_FALSE), .val (.ref r_FALSE), .val (.int (0 : Int32))] [(.int (1 : Int32))]))
      refine own_go (fun _ hr => XS.iloadN X8.here hx rfl (hb hby at_101) rfl (XS.iloadN X8.here hx rfl (hb hby at_102) rfl (XS.icmpNo X8.here hx rfl (hb hby at_103) rfl (teq (by decide)).2 (XS.iconst X8.here hx rfl (hb hby at_106) (XS.goto X8.here hx rfl (pc0 := 107) (pc' := 111) rfl (hb hby at_107) (by decide) (by decide) (XS.icmpNo X8.here hx rfl (hb hby at_111) rfl (teq (by decide)).2 (XS.iconst X8.here hx rfl (hb hby at_114) (XS.goto X8.here hx rfl (pc0 := 115) (pc' := 119) rfl (hb hby at_115) (by decide) (by decide) hr)))))))) ?_
      show own_Go p e below _ (T8.setTop (mkF m 119 #[.val (.int x0), .val (.int x1), .val (.int (0 : Int32)), .val (.int (0 : Int32)), .val (.ref r_FALSE), .val (.ref r_FALSE), .val (.int (0 : Int32))] [(.int (1 : Int32))]))
      exact own_retN X8 hx hlk Bd.returns (t := .boolean) (by simp) (hb hby at_119) (by decide) (by decide) ⟨rfl, N8⟩
    refine own_go (fun _ hr => XS.ifNo X0.here hx rfl (hb hby at_15) rfl ((if0 _ _).trans (feq c2).1) hr) ?_
    show own_Go p e below _ (s₁.setTop (mkF m 18 #[.val (.int x0), .val (.int x1), .val (.int (0 : Int32)), .unset, .unset, .unset, .unset] []))
    refine own_go (fun _ hr => XS.iconst X0.here hx rfl (hb hby at_18) (XS.goto X0.here hx rfl (pc0 := 19) (pc' := 23) rfl (hb hby at_19) (by decide) (by decide) (XS.istoreN X0.here hx rfl (hb hby at_23) rfl (l' := #[.val (.int x0), .val (.int x1), .val (.int (0 : Int32)), .val (.int (1 : Int32)), .unset, .unset, .unset]) rfl (XS.iloadN X0.here hx rfl (hb hby at_24) rfl hr)))) ?_
    show own_Go p e below _ (s₁.setTop (mkF m 25 #[.val (.int x0), .val (.int x1), .val (.int (0 : Int32)), .val (.int (1 : Int32)), .unset, .unset, .unset] [(.int (0 : Int32))]))
    refine own_cs X0 hx hZ hown (hw _ (own_m 0 rfl)) (hw _ (own_m 1 rfl)) (hw _ (own_m 2 rfl)) (hw _ (own_m 3 rfl)) (by decide) (rm := { frames := 0, cells := 0, slots := 0, locals := 0 }) (rm_a1_of l Z a0 hw [] r_FALSE h0 n0 Z0 S_FALSE) (by decide) (W := 0) (by decide) (by decide) (by decide) e0 (by rw [hml]; rfl) (argsL := [(.int (0 : Int32))]) (lenOf own_pd0 rfl) (rest := []) rfl rfl (Nat.le_of_eq rfl) (hb hby at_25) ?_
    intro _ T9 L9 X9 hQ9
    obtain ⟨rfl, N9q, e9⟩ := hQ9
    have N9 := Fr.app N0 N9q
    show own_Go p e below _ (T9.setTop (mkF m 28 #[.val (.int x0), .val (.int x1), .val (.int (0 : Int32)), .val (.int (1 : Int32)), .unset, .unset, .unset] [(.ref r_FALSE)]))
    refine own_go (fun _ hr => XS.astore X9.here hx rfl (hb hby at_28) rfl rfl (l' := #[.val (.int x0), .val (.int x1), .val (.int (0 : Int32)), .val (.int (1 : Int32)), .val (.ref r_FALSE), .unset, .unset]) rfl (XS.iloadN X9.here hx rfl (hb hby at_30) rfl hr)) ?_
    show own_Go p e below _ (T9.setTop (mkF m 31 #[.val (.int x0), .val (.int x1), .val (.int (0 : Int32)), .val (.int (1 : Int32)), .val (.ref r_FALSE), .unset, .unset] [(.int (1 : Int32))]))
    refine own_cs X9 hx hZ hown (hw _ (own_m 0 rfl)) (hw _ (own_m 1 rfl)) (hw _ (own_m 2 rfl)) (hw _ (own_m 3 rfl)) (by decide) (rm := { frames := 0, cells := 0, slots := 0, locals := 0 }) (rm_a5_of l Z a0 hw [] r_TRUE h0 n0 Z0 S_TRUE) (by decide) (W := 0) (by decide) (by decide) (by decide) e9 (by rw [hml]; rfl) (argsL := [(.int (1 : Int32))]) (lenOf own_pd0 rfl) (rest := []) rfl rfl (Nat.le_of_eq rfl) (hb hby at_31) ?_
    intro _ T10 L10 X10 hQ10
    obtain ⟨rfl, N10q, e10⟩ := hQ10
    have N10 := Fr.app N9 N10q
    show own_Go p e below _ (T10.setTop (mkF m 34 #[.val (.int x0), .val (.int x1), .val (.int (0 : Int32)), .val (.int (1 : Int32)), .val (.ref r_FALSE), .unset, .unset] [(.ref r_TRUE)]))
    refine own_go (fun _ hr => XS.astore X10.here hx rfl (hb hby at_34) rfl rfl (l' := #[.val (.int x0), .val (.int x1), .val (.int (0 : Int32)), .val (.int (1 : Int32)), .val (.ref r_FALSE), .val (.ref r_TRUE), .unset]) rfl (XS.aload X10.here hx rfl (hb hby at_36) rfl rfl hr)) ?_
    show own_Go p e below _ (T10.setTop (mkF m 38 #[.val (.int x0), .val (.int x1), .val (.int (0 : Int32)), .val (.int (1 : Int32)), .val (.ref r_FALSE), .val (.ref r_TRUE), .unset] [(.ref r_FALSE)]))
    refine own_go (fun _ hr => XS.ifnullNo X10.here hx rfl (hb hby at_38) rfl hr) ?_
    show own_Go p e below _ (T10.setTop (mkF m 41 #[.val (.int x0), .val (.int x1), .val (.int (0 : Int32)), .val (.int (1 : Int32)), .val (.ref r_FALSE), .val (.ref r_TRUE), .unset] []))
    refine own_go (fun _ hr => XS.aload X10.here hx rfl (hb hby at_41) rfl rfl hr) ?_
    show own_Go p e below _ (T10.setTop (mkF m 43 #[.val (.int x0), .val (.int x1), .val (.int (0 : Int32)), .val (.int (1 : Int32)), .val (.ref r_FALSE), .val (.ref r_TRUE), .unset] [(.ref r_TRUE)]))
    refine own_go (fun _ hr => XS.ifnonnullYes X10.here hx rfl (pc0 := 43) (pc' := 48) rfl (hb hby at_43) rfl (by decide) (by decide) hr) ?_
    show own_Go p e below _ (T10.setTop (mkF m 48 #[.val (.int x0), .val (.int x1), .val (.int (0 : Int32)), .val (.int (1 : Int32)), .val (.ref r_FALSE), .val (.ref r_TRUE), .unset] []))
    refine own_go (fun _ hr => XS.aload X10.here hx rfl (hb hby at_48) rfl rfl hr) ?_
    show own_Go p e below _ (T10.setTop (mkF m 50 #[.val (.int x0), .val (.int x1), .val (.int (0 : Int32)), .val (.int (1 : Int32)), .val (.ref r_FALSE), .val (.ref r_TRUE), .unset] [(.ref r_FALSE)]))
    refine own_cv X10 hx hZ hown (notFace_of_selects (args := #[]) (mvT hZ (hw _ (own_m 11 rfl)))) (hw _ (own_m 8 rfl)) (hw _ (own_m 9 rfl)) (hw _ (own_m 11 rfl)) (hw _ (own_m 10 rfl)) (hw _ (own_m 2 rfl)) (hw _ (own_m 12 rfl)) (by decide) E_FALSE (rm := { frames := 0, cells := 0, slots := 0, locals := 0 }) (rm_a2_value l Z a0 hw [] r_FALSE h0 n0 Z0 F_FALSE_value) (by decide) (W := 0) (by decide) (by decide) (by decide) e10 (by rw [hml]; rfl) (argsL := []) (lenOf own_pd1 rfl) (rest := []) rfl rfl (Nat.le_of_eq rfl) (hb hby at_50) ?_
    intro _ T11 L11 X11 hQ11
    obtain ⟨rfl, N11q, e11⟩ := hQ11
    have N11 := Fr.app N10 N11q
    show own_Go p e below _ (T11.setTop (mkF m 53 #[.val (.int x0), .val (.int x1), .val (.int (0 : Int32)), .val (.int (1 : Int32)), .val (.ref r_FALSE), .val (.ref r_TRUE), .unset] [(.int (0 : Int32))]))
    refine own_go (fun _ hr => XS.iloadN X11.here hx rfl (hb hby at_53) rfl (XS.icmpYes X11.here hx rfl (pc0 := 54) (pc' := 59) rfl (hb hby at_54) rfl (teq (by decide)).1 (by decide) (by decide) (XS.aload X11.here hx rfl (hb hby at_59) rfl rfl hr))) ?_
    show own_Go p e below _ (T11.setTop (mkF m 61 #[.val (.int x0), .val (.int x1), .val (.int (0 : Int32)), .val (.int (1 : Int32)), .val (.ref r_FALSE), .val (.ref r_TRUE), .unset] [(.ref r_TRUE)]))
    refine own_cv X11 hx hZ hown (notFace_of_selects (args := #[]) (mvT hZ (hw _ (own_m 11 rfl)))) (hw _ (own_m 8 rfl)) (hw _ (own_m 9 rfl)) (hw _ (own_m 11 rfl)) (hw _ (own_m 10 rfl)) (hw _ (own_m 2 rfl)) (hw _ (own_m 12 rfl)) (by decide) E_TRUE (rm := { frames := 0, cells := 0, slots := 0, locals := 0 }) (rm_a6_value l Z a0 hw [] r_TRUE h0 n0 Z0 F_TRUE_value) (by decide) (W := 0) (by decide) (by decide) (by decide) e11 (by rw [hml]; rfl) (argsL := []) (lenOf own_pd1 rfl) (rest := []) rfl rfl (Nat.le_of_eq rfl) (hb hby at_61) ?_
    intro _ T12 L12 X12 hQ12
    obtain ⟨rfl, N12q, e12⟩ := hQ12
    have N12 := Fr.app N11 N12q
    show own_Go p e below _ (T12.setTop (mkF m 64 #[.val (.int x0), .val (.int x1), .val (.int (0 : Int32)), .val (.int (1 : Int32)), .val (.ref r_FALSE), .val (.ref r_TRUE), .unset] [(.int (1 : Int32))]))
    refine own_go (fun _ hr => XS.iloadN X12.here hx rfl (hb hby at_64) rfl (XS.icmpYes X12.here hx rfl (pc0 := 65) (pc' := 70) rfl (hb hby at_65) rfl (teq (by decide)).1 (by decide) (by decide) (XS.iloadN X12.here hx rfl (hb hby at_70) rfl (XS.ifYes X12.here hx rfl (pc0 := 71) (pc' := 78) rfl (hb hby at_71) rfl ((if0 _ _).trans (teq (by decide)).1) (by decide) (by decide) (XS.iconst X12.here hx rfl (hb hby at_78) (XS.istore X12.here hx rfl (hb hby at_79) rfl (l' := #[.val (.int x0), .val (.int x1), .val (.int (0 : Int32)), .val (.int (1 : Int32)), .val (.ref r_FALSE), .val (.ref r_TRUE), .val (.int (0 : Int32))]) rfl (XS.aload X12.here hx rfl (hb hby at_81) rfl rfl hr))))))) ?_
    show own_Go p e below _ (T12.setTop (mkF m 83 #[.val (.int x0), .val (.int x1), .val (.int (0 : Int32)), .val (.int (1 : Int32)), .val (.ref r_FALSE), .val (.ref r_TRUE), .val (.int (0 : Int32))] [(.ref r_FALSE)]))
    refine own_cv X12 hx hZ hown (notFace_of_selects (args := #[]) (mvT hZ (hw _ (own_m 18 rfl)))) (hw _ (own_m 15 rfl)) (hw _ (own_m 16 rfl)) (hw _ (own_m 18 rfl)) (hw _ (own_m 17 rfl)) (hw _ (own_m 2 rfl)) (hw _ (own_m 19 rfl)) (by decide) E_FALSE (rm := { frames := 0, cells := 0, slots := 0, locals := 0 }) (rm_a3_keyByte l Z a0 hw [] r_FALSE h0 n0 Z0 F_FALSE_value) (by decide) (W := 0) (by decide) (by decide) (by decide) e12 (by rw [hml]; rfl) (argsL := []) (lenOf own_pd2 rfl) (rest := []) rfl rfl (Nat.le_of_eq rfl) (hb hby at_83) ?_
    intro _ T13 L13 X13 hQ13
    obtain ⟨rfl, N13q, e13⟩ := hQ13
    have N13 := Fr.app N12 N13q
    show own_Go p e below _ (T13.setTop (mkF m 86 #[.val (.int x0), .val (.int x1), .val (.int (0 : Int32)), .val (.int (1 : Int32)), .val (.ref r_FALSE), .val (.ref r_TRUE), .val (.int (0 : Int32))] [(.int (0 : Int32))]))
    refine own_go (fun _ hr => XS.iload X13.here hx rfl (hb hby at_86) rfl (XS.i2b X13.here hx rfl (hb hby at_88) rfl (XS.icmpYes X13.here hx rfl (pc0 := 89) (pc' := 94) rfl (hb hby at_89) rfl (teq (by decide)).1 (by decide) (by decide) (XS.aload X13.here hx rfl (hb hby at_94) rfl rfl (XS.aload X13.here hx rfl (hb hby at_96) rfl rfl hr))))) ?_
    show own_Go p e below _ (T13.setTop (mkF m 98 #[.val (.int x0), .val (.int x1), .val (.int (0 : Int32)), .val (.int (1 : Int32)), .val (.ref r_FALSE), .val (.ref r_TRUE), .val (.int (0 : Int32))] [(.ref r_TRUE), (.ref r_FALSE)]))
    refine own_cv X13 hx hZ hown (notFace_of_selects (args := #[]) (mvT hZ (hw _ (own_m 23 rfl)))) (hw _ (own_m 20 rfl)) (hw _ (own_m 21 rfl)) (hw _ (own_m 23 rfl)) (hw _ (own_m 22 rfl)) (hw _ (own_m 2 rfl)) (hw _ (own_m 24 rfl)) (by decide) E_FALSE (rm := { frames := 0, cells := 0, slots := 0, locals := 0 }) (rm_a7_equals l Z a0 hw [] r_FALSE r_TRUE h0 n0 Z0 F_FALSE_value E_TRUE F_TRUE_value) (by decide) (W := 0) (by decide) (by decide) (by decide) e13 (by rw [hml]; rfl) (argsL := [(.ref r_TRUE)]) (lenOf own_pd3 rfl) (rest := []) rfl rfl (Nat.le_of_eq rfl) (hb hby at_98) ?_
    intro _ T14 L14 X14 hQ14
    obtain ⟨rfl, N14q, e14⟩ := hQ14
    have N14 := Fr.app N13 N14q
    show own_Go p e below _ (T14.setTop (mkF m 101 #[.val (.int x0), .val (.int x1), .val (.int (0 : Int32)), .val (.int (1 : Int32)), .val (.ref r_FALSE), .val (.ref r_TRUE), .val (.int (0 : Int32))] [(.int (0 : Int32))]))
    refine own_go (fun _ hr => XS.iloadN X14.here hx rfl (hb hby at_101) rfl (XS.iloadN X14.here hx rfl (hb hby at_102) rfl (XS.icmpYes X14.here hx rfl (pc0 := 103) (pc' := 110) rfl (hb hby at_103) rfl (feq (by decide)).2 (by decide) (by decide) (XS.iconst X14.here hx rfl (hb hby at_110) (XS.icmpNo X14.here hx rfl (hb hby at_111) rfl (teq (by decide)).2 (XS.iconst X14.here hx rfl (hb hby at_114) (XS.goto X14.here hx rfl (pc0 := 115) (pc' := 119) rfl (hb hby at_115) (by decide) (by decide) hr))))))) ?_
    show own_Go p e below _ (T14.setTop (mkF m 119 #[.val (.int x0), .val (.int x1), .val (.int (0 : Int32)), .val (.int (1 : Int32)), .val (.ref r_FALSE), .val (.ref r_TRUE), .val (.int (0 : Int32))] [(.int (1 : Int32))]))
    exact own_retN X14 hx hlk Bd.returns (t := .boolean) (by simp) (hb hby at_119) (by decide) (by decide) ⟨rfl, N14⟩
  refine own_go (fun _ hr => XS.ifNo X0.here hx rfl (hb hby at_3) rfl ((if0 _ _).trans (feq c1).1) hr) ?_
  show own_Go p e below _ (s₁.setTop (mkF m 6 #[.val (.int x0), .val (.int x1), .unset, .unset, .unset, .unset, .unset] []))
  refine own_go (fun _ hr => XS.iconst X0.here hx rfl (hb hby at_6) (XS.goto X0.here hx rfl (pc0 := 7) (pc' := 11) rfl (hb hby at_7) (by decide) (by decide) (XS.istoreN X0.here hx rfl (hb hby at_11) rfl (l' := #[.val (.int x0), .val (.int x1), .val (.int (1 : Int32)), .unset, .unset, .unset, .unset]) rfl (XS.iloadN X0.here hx rfl (hb hby at_12) rfl (XS.iconst X0.here hx rfl (hb hby at_13) (XS.iand X0.here hx rfl (hb hby at_14) rfl hr)))))) ?_
  show own_Go p e below _ (s₁.setTop (mkF m 15 #[.val (.int x0), .val (.int x1), .val (.int (1 : Int32)), .unset, .unset, .unset, .unset] [(.int (x1 &&& (1 : Int32)))]))
  by_cases c15 : (x1 &&& (1 : Int32)) = (0 : Int32)
  · refine own_go (fun _ hr => XS.ifYes X0.here hx rfl (pc0 := 15) (pc' := 22) rfl (hb hby at_15) rfl ((if0 _ _).trans (teq c15).1) (by decide) (by decide) hr) ?_
    show own_Go p e below _ (s₁.setTop (mkF m 22 #[.val (.int x0), .val (.int x1), .val (.int (1 : Int32)), .unset, .unset, .unset, .unset] []))
    refine own_go (fun _ hr => XS.iconst X0.here hx rfl (hb hby at_22) (XS.istoreN X0.here hx rfl (hb hby at_23) rfl (l' := #[.val (.int x0), .val (.int x1), .val (.int (1 : Int32)), .val (.int (0 : Int32)), .unset, .unset, .unset]) rfl (XS.iloadN X0.here hx rfl (hb hby at_24) rfl hr))) ?_
    show own_Go p e below _ (s₁.setTop (mkF m 25 #[.val (.int x0), .val (.int x1), .val (.int (1 : Int32)), .val (.int (0 : Int32)), .unset, .unset, .unset] [(.int (1 : Int32))]))
    refine own_cs X0 hx hZ hown (hw _ (own_m 0 rfl)) (hw _ (own_m 1 rfl)) (hw _ (own_m 2 rfl)) (hw _ (own_m 3 rfl)) (by decide) (rm := { frames := 0, cells := 0, slots := 0, locals := 0 }) (rm_a5_of l Z a0 hw [] r_TRUE h0 n0 Z0 S_TRUE) (by decide) (W := 0) (by decide) (by decide) (by decide) e0 (by rw [hml]; rfl) (argsL := [(.int (1 : Int32))]) (lenOf own_pd0 rfl) (rest := []) rfl rfl (Nat.le_of_eq rfl) (hb hby at_25) ?_
    intro _ T16 L16 X16 hQ16
    obtain ⟨rfl, N16q, e16⟩ := hQ16
    have N16 := Fr.app N0 N16q
    show own_Go p e below _ (T16.setTop (mkF m 28 #[.val (.int x0), .val (.int x1), .val (.int (1 : Int32)), .val (.int (0 : Int32)), .unset, .unset, .unset] [(.ref r_TRUE)]))
    refine own_go (fun _ hr => XS.astore X16.here hx rfl (hb hby at_28) rfl rfl (l' := #[.val (.int x0), .val (.int x1), .val (.int (1 : Int32)), .val (.int (0 : Int32)), .val (.ref r_TRUE), .unset, .unset]) rfl (XS.iloadN X16.here hx rfl (hb hby at_30) rfl hr)) ?_
    show own_Go p e below _ (T16.setTop (mkF m 31 #[.val (.int x0), .val (.int x1), .val (.int (1 : Int32)), .val (.int (0 : Int32)), .val (.ref r_TRUE), .unset, .unset] [(.int (0 : Int32))]))
    refine own_cs X16 hx hZ hown (hw _ (own_m 0 rfl)) (hw _ (own_m 1 rfl)) (hw _ (own_m 2 rfl)) (hw _ (own_m 3 rfl)) (by decide) (rm := { frames := 0, cells := 0, slots := 0, locals := 0 }) (rm_a1_of l Z a0 hw [] r_FALSE h0 n0 Z0 S_FALSE) (by decide) (W := 0) (by decide) (by decide) (by decide) e16 (by rw [hml]; rfl) (argsL := [(.int (0 : Int32))]) (lenOf own_pd0 rfl) (rest := []) rfl rfl (Nat.le_of_eq rfl) (hb hby at_31) ?_
    intro _ T17 L17 X17 hQ17
    obtain ⟨rfl, N17q, e17⟩ := hQ17
    have N17 := Fr.app N16 N17q
    show own_Go p e below _ (T17.setTop (mkF m 34 #[.val (.int x0), .val (.int x1), .val (.int (1 : Int32)), .val (.int (0 : Int32)), .val (.ref r_TRUE), .unset, .unset] [(.ref r_FALSE)]))
    refine own_go (fun _ hr => XS.astore X17.here hx rfl (hb hby at_34) rfl rfl (l' := #[.val (.int x0), .val (.int x1), .val (.int (1 : Int32)), .val (.int (0 : Int32)), .val (.ref r_TRUE), .val (.ref r_FALSE), .unset]) rfl (XS.aload X17.here hx rfl (hb hby at_36) rfl rfl hr)) ?_
    show own_Go p e below _ (T17.setTop (mkF m 38 #[.val (.int x0), .val (.int x1), .val (.int (1 : Int32)), .val (.int (0 : Int32)), .val (.ref r_TRUE), .val (.ref r_FALSE), .unset] [(.ref r_TRUE)]))
    refine own_go (fun _ hr => XS.ifnullNo X17.here hx rfl (hb hby at_38) rfl hr) ?_
    show own_Go p e below _ (T17.setTop (mkF m 41 #[.val (.int x0), .val (.int x1), .val (.int (1 : Int32)), .val (.int (0 : Int32)), .val (.ref r_TRUE), .val (.ref r_FALSE), .unset] []))
    refine own_go (fun _ hr => XS.aload X17.here hx rfl (hb hby at_41) rfl rfl hr) ?_
    show own_Go p e below _ (T17.setTop (mkF m 43 #[.val (.int x0), .val (.int x1), .val (.int (1 : Int32)), .val (.int (0 : Int32)), .val (.ref r_TRUE), .val (.ref r_FALSE), .unset] [(.ref r_FALSE)]))
    refine own_go (fun _ hr => XS.ifnonnullYes X17.here hx rfl (pc0 := 43) (pc' := 48) rfl (hb hby at_43) rfl (by decide) (by decide) hr) ?_
    show own_Go p e below _ (T17.setTop (mkF m 48 #[.val (.int x0), .val (.int x1), .val (.int (1 : Int32)), .val (.int (0 : Int32)), .val (.ref r_TRUE), .val (.ref r_FALSE), .unset] []))
    refine own_go (fun _ hr => XS.aload X17.here hx rfl (hb hby at_48) rfl rfl hr) ?_
    show own_Go p e below _ (T17.setTop (mkF m 50 #[.val (.int x0), .val (.int x1), .val (.int (1 : Int32)), .val (.int (0 : Int32)), .val (.ref r_TRUE), .val (.ref r_FALSE), .unset] [(.ref r_TRUE)]))
    refine own_cv X17 hx hZ hown (notFace_of_selects (args := #[]) (mvT hZ (hw _ (own_m 11 rfl)))) (hw _ (own_m 8 rfl)) (hw _ (own_m 9 rfl)) (hw _ (own_m 11 rfl)) (hw _ (own_m 10 rfl)) (hw _ (own_m 2 rfl)) (hw _ (own_m 12 rfl)) (by decide) E_TRUE (rm := { frames := 0, cells := 0, slots := 0, locals := 0 }) (rm_a6_value l Z a0 hw [] r_TRUE h0 n0 Z0 F_TRUE_value) (by decide) (W := 0) (by decide) (by decide) (by decide) e17 (by rw [hml]; rfl) (argsL := []) (lenOf own_pd1 rfl) (rest := []) rfl rfl (Nat.le_of_eq rfl) (hb hby at_50) ?_
    intro _ T18 L18 X18 hQ18
    obtain ⟨rfl, N18q, e18⟩ := hQ18
    have N18 := Fr.app N17 N18q
    show own_Go p e below _ (T18.setTop (mkF m 53 #[.val (.int x0), .val (.int x1), .val (.int (1 : Int32)), .val (.int (0 : Int32)), .val (.ref r_TRUE), .val (.ref r_FALSE), .unset] [(.int (1 : Int32))]))
    refine own_go (fun _ hr => XS.iloadN X18.here hx rfl (hb hby at_53) rfl (XS.icmpYes X18.here hx rfl (pc0 := 54) (pc' := 59) rfl (hb hby at_54) rfl (teq (by decide)).1 (by decide) (by decide) (XS.aload X18.here hx rfl (hb hby at_59) rfl rfl hr))) ?_
    show own_Go p e below _ (T18.setTop (mkF m 61 #[.val (.int x0), .val (.int x1), .val (.int (1 : Int32)), .val (.int (0 : Int32)), .val (.ref r_TRUE), .val (.ref r_FALSE), .unset] [(.ref r_FALSE)]))
    refine own_cv X18 hx hZ hown (notFace_of_selects (args := #[]) (mvT hZ (hw _ (own_m 11 rfl)))) (hw _ (own_m 8 rfl)) (hw _ (own_m 9 rfl)) (hw _ (own_m 11 rfl)) (hw _ (own_m 10 rfl)) (hw _ (own_m 2 rfl)) (hw _ (own_m 12 rfl)) (by decide) E_FALSE (rm := { frames := 0, cells := 0, slots := 0, locals := 0 }) (rm_a2_value l Z a0 hw [] r_FALSE h0 n0 Z0 F_FALSE_value) (by decide) (W := 0) (by decide) (by decide) (by decide) e18 (by rw [hml]; rfl) (argsL := []) (lenOf own_pd1 rfl) (rest := []) rfl rfl (Nat.le_of_eq rfl) (hb hby at_61) ?_
    intro _ T19 L19 X19 hQ19
    obtain ⟨rfl, N19q, e19⟩ := hQ19
    have N19 := Fr.app N18 N19q
    show own_Go p e below _ (T19.setTop (mkF m 64 #[.val (.int x0), .val (.int x1), .val (.int (1 : Int32)), .val (.int (0 : Int32)), .val (.ref r_TRUE), .val (.ref r_FALSE), .unset] [(.int (0 : Int32))]))
    refine own_go (fun _ hr => XS.iloadN X19.here hx rfl (hb hby at_64) rfl (XS.icmpYes X19.here hx rfl (pc0 := 65) (pc' := 70) rfl (hb hby at_65) rfl (teq (by decide)).1 (by decide) (by decide) (XS.iloadN X19.here hx rfl (hb hby at_70) rfl (XS.ifNo X19.here hx rfl (hb hby at_71) rfl ((if0 _ _).trans (feq (by decide)).1) (XS.iconst X19.here hx rfl (hb hby at_74) (XS.goto X19.here hx rfl (pc0 := 75) (pc' := 79) rfl (hb hby at_75) (by decide) (by decide) (XS.istore X19.here hx rfl (hb hby at_79) rfl (l' := #[.val (.int x0), .val (.int x1), .val (.int (1 : Int32)), .val (.int (0 : Int32)), .val (.ref r_TRUE), .val (.ref r_FALSE), .val (.int (1 : Int32))]) rfl (XS.aload X19.here hx rfl (hb hby at_81) rfl rfl hr)))))))) ?_
    show own_Go p e below _ (T19.setTop (mkF m 83 #[.val (.int x0), .val (.int x1), .val (.int (1 : Int32)), .val (.int (0 : Int32)), .val (.ref r_TRUE), .val (.ref r_FALSE), .val (.int (1 : Int32))] [(.ref r_TRUE)]))
    refine own_cv X19 hx hZ hown (notFace_of_selects (args := #[]) (mvT hZ (hw _ (own_m 18 rfl)))) (hw _ (own_m 15 rfl)) (hw _ (own_m 16 rfl)) (hw _ (own_m 18 rfl)) (hw _ (own_m 17 rfl)) (hw _ (own_m 2 rfl)) (hw _ (own_m 19 rfl)) (by decide) E_TRUE (rm := { frames := 0, cells := 0, slots := 0, locals := 0 }) (rm_a8_keyByte l Z a0 hw [] r_TRUE h0 n0 Z0 F_TRUE_value) (by decide) (W := 0) (by decide) (by decide) (by decide) e19 (by rw [hml]; rfl) (argsL := []) (lenOf own_pd2 rfl) (rest := []) rfl rfl (Nat.le_of_eq rfl) (hb hby at_83) ?_
    intro _ T20 L20 X20 hQ20
    obtain ⟨rfl, N20q, e20⟩ := hQ20
    have N20 := Fr.app N19 N20q
    show own_Go p e below _ (T20.setTop (mkF m 86 #[.val (.int x0), .val (.int x1), .val (.int (1 : Int32)), .val (.int (0 : Int32)), .val (.ref r_TRUE), .val (.ref r_FALSE), .val (.int (1 : Int32))] [(.int (1 : Int32))]))
    refine own_go (fun _ hr => XS.iload X20.here hx rfl (hb hby at_86) rfl (XS.i2b X20.here hx rfl (hb hby at_88) rfl (XS.icmpYes X20.here hx rfl (pc0 := 89) (pc' := 94) rfl (hb hby at_89) rfl (teq (by decide)).1 (by decide) (by decide) (XS.aload X20.here hx rfl (hb hby at_94) rfl rfl (XS.aload X20.here hx rfl (hb hby at_96) rfl rfl hr))))) ?_
    show own_Go p e below _ (T20.setTop (mkF m 98 #[.val (.int x0), .val (.int x1), .val (.int (1 : Int32)), .val (.int (0 : Int32)), .val (.ref r_TRUE), .val (.ref r_FALSE), .val (.int (1 : Int32))] [(.ref r_FALSE), (.ref r_TRUE)]))
    refine own_cv X20 hx hZ hown (notFace_of_selects (args := #[]) (mvT hZ (hw _ (own_m 23 rfl)))) (hw _ (own_m 20 rfl)) (hw _ (own_m 21 rfl)) (hw _ (own_m 23 rfl)) (hw _ (own_m 22 rfl)) (hw _ (own_m 2 rfl)) (hw _ (own_m 24 rfl)) (by decide) E_TRUE (rm := { frames := 0, cells := 0, slots := 0, locals := 0 }) (rm_a9_equals l Z a0 hw [] r_FALSE r_TRUE h0 n0 Z0 E_FALSE F_FALSE_value F_TRUE_value) (by decide) (W := 0) (by decide) (by decide) (by decide) e20 (by rw [hml]; rfl) (argsL := [(.ref r_FALSE)]) (lenOf own_pd3 rfl) (rest := []) rfl rfl (Nat.le_of_eq rfl) (hb hby at_98) ?_
    intro _ T21 L21 X21 hQ21
    obtain ⟨rfl, N21q, e21⟩ := hQ21
    have N21 := Fr.app N20 N21q
    show own_Go p e below _ (T21.setTop (mkF m 101 #[.val (.int x0), .val (.int x1), .val (.int (1 : Int32)), .val (.int (0 : Int32)), .val (.ref r_TRUE), .val (.ref r_FALSE), .val (.int (1 : Int32))] [(.int (0 : Int32))]))
    refine own_go (fun _ hr => XS.iloadN X21.here hx rfl (hb hby at_101) rfl (XS.iloadN X21.here hx rfl (hb hby at_102) rfl (XS.icmpYes X21.here hx rfl (pc0 := 103) (pc' := 110) rfl (hb hby at_103) rfl (feq (by decide)).2 (by decide) (by decide) (XS.iconst X21.here hx rfl (hb hby at_110) (XS.icmpNo X21.here hx rfl (hb hby at_111) rfl (teq (by decide)).2 (XS.iconst X21.here hx rfl (hb hby at_114) (XS.goto X21.here hx rfl (pc0 := 115) (pc' := 119) rfl (hb hby at_115) (by decide) (by decide) hr))))))) ?_
    show own_Go p e below _ (T21.setTop (mkF m 119 #[.val (.int x0), .val (.int x1), .val (.int (1 : Int32)), .val (.int (0 : Int32)), .val (.ref r_TRUE), .val (.ref r_FALSE), .val (.int (1 : Int32))] [(.int (1 : Int32))]))
    exact own_retN X21 hx hlk Bd.returns (t := .boolean) (by simp) (hb hby at_119) (by decide) (by decide) ⟨rfl, N21⟩
  refine own_go (fun _ hr => XS.ifNo X0.here hx rfl (hb hby at_15) rfl ((if0 _ _).trans (feq c15).1) hr) ?_
  show own_Go p e below _ (s₁.setTop (mkF m 18 #[.val (.int x0), .val (.int x1), .val (.int (1 : Int32)), .unset, .unset, .unset, .unset] []))
  refine own_go (fun _ hr => XS.iconst X0.here hx rfl (hb hby at_18) (XS.goto X0.here hx rfl (pc0 := 19) (pc' := 23) rfl (hb hby at_19) (by decide) (by decide) (XS.istoreN X0.here hx rfl (hb hby at_23) rfl (l' := #[.val (.int x0), .val (.int x1), .val (.int (1 : Int32)), .val (.int (1 : Int32)), .unset, .unset, .unset]) rfl (XS.iloadN X0.here hx rfl (hb hby at_24) rfl hr)))) ?_
  show own_Go p e below _ (s₁.setTop (mkF m 25 #[.val (.int x0), .val (.int x1), .val (.int (1 : Int32)), .val (.int (1 : Int32)), .unset, .unset, .unset] [(.int (1 : Int32))]))
  refine own_cs X0 hx hZ hown (hw _ (own_m 0 rfl)) (hw _ (own_m 1 rfl)) (hw _ (own_m 2 rfl)) (hw _ (own_m 3 rfl)) (by decide) (rm := { frames := 0, cells := 0, slots := 0, locals := 0 }) (rm_a5_of l Z a0 hw [] r_TRUE h0 n0 Z0 S_TRUE) (by decide) (W := 0) (by decide) (by decide) (by decide) e0 (by rw [hml]; rfl) (argsL := [(.int (1 : Int32))]) (lenOf own_pd0 rfl) (rest := []) rfl rfl (Nat.le_of_eq rfl) (hb hby at_25) ?_
  intro _ T22 L22 X22 hQ22
  obtain ⟨rfl, N22q, e22⟩ := hQ22
  have N22 := Fr.app N0 N22q
  show own_Go p e below _ (T22.setTop (mkF m 28 #[.val (.int x0), .val (.int x1), .val (.int (1 : Int32)), .val (.int (1 : Int32)), .unset, .unset, .unset] [(.ref r_TRUE)]))
  refine own_go (fun _ hr => XS.astore X22.here hx rfl (hb hby at_28) rfl rfl (l' := #[.val (.int x0), .val (.int x1), .val (.int (1 : Int32)), .val (.int (1 : Int32)), .val (.ref r_TRUE), .unset, .unset]) rfl (XS.iloadN X22.here hx rfl (hb hby at_30) rfl hr)) ?_
  show own_Go p e below _ (T22.setTop (mkF m 31 #[.val (.int x0), .val (.int x1), .val (.int (1 : Int32)), .val (.int (1 : Int32)), .val (.ref r_TRUE), .unset, .unset] [(.int (1 : Int32))]))
  refine own_cs X22 hx hZ hown (hw _ (own_m 0 rfl)) (hw _ (own_m 1 rfl)) (hw _ (own_m 2 rfl)) (hw _ (own_m 3 rfl)) (by decide) (rm := { frames := 0, cells := 0, slots := 0, locals := 0 }) (rm_a5_of l Z a0 hw [] r_TRUE h0 n0 Z0 S_TRUE) (by decide) (W := 0) (by decide) (by decide) (by decide) e22 (by rw [hml]; rfl) (argsL := [(.int (1 : Int32))]) (lenOf own_pd0 rfl) (rest := []) rfl rfl (Nat.le_of_eq rfl) (hb hby at_31) ?_
  intro _ T23 L23 X23 hQ23
  obtain ⟨rfl, N23q, e23⟩ := hQ23
  have N23 := Fr.app N22 N23q
  show own_Go p e below _ (T23.setTop (mkF m 34 #[.val (.int x0), .val (.int x1), .val (.int (1 : Int32)), .val (.int (1 : Int32)), .val (.ref r_TRUE), .unset, .unset] [(.ref r_TRUE)]))
  refine own_go (fun _ hr => XS.astore X23.here hx rfl (hb hby at_34) rfl rfl (l' := #[.val (.int x0), .val (.int x1), .val (.int (1 : Int32)), .val (.int (1 : Int32)), .val (.ref r_TRUE), .val (.ref r_TRUE), .unset]) rfl (XS.aload X23.here hx rfl (hb hby at_36) rfl rfl hr)) ?_
  show own_Go p e below _ (T23.setTop (mkF m 38 #[.val (.int x0), .val (.int x1), .val (.int (1 : Int32)), .val (.int (1 : Int32)), .val (.ref r_TRUE), .val (.ref r_TRUE), .unset] [(.ref r_TRUE)]))
  refine own_go (fun _ hr => XS.ifnullNo X23.here hx rfl (hb hby at_38) rfl hr) ?_
  show own_Go p e below _ (T23.setTop (mkF m 41 #[.val (.int x0), .val (.int x1), .val (.int (1 : Int32)), .val (.int (1 : Int32)), .val (.ref r_TRUE), .val (.ref r_TRUE), .unset] []))
  refine own_go (fun _ hr => XS.aload X23.here hx rfl (hb hby at_41) rfl rfl hr) ?_
  show own_Go p e below _ (T23.setTop (mkF m 43 #[.val (.int x0), .val (.int x1), .val (.int (1 : Int32)), .val (.int (1 : Int32)), .val (.ref r_TRUE), .val (.ref r_TRUE), .unset] [(.ref r_TRUE)]))
  refine own_go (fun _ hr => XS.ifnonnullYes X23.here hx rfl (pc0 := 43) (pc' := 48) rfl (hb hby at_43) rfl (by decide) (by decide) hr) ?_
  show own_Go p e below _ (T23.setTop (mkF m 48 #[.val (.int x0), .val (.int x1), .val (.int (1 : Int32)), .val (.int (1 : Int32)), .val (.ref r_TRUE), .val (.ref r_TRUE), .unset] []))
  refine own_go (fun _ hr => XS.aload X23.here hx rfl (hb hby at_48) rfl rfl hr) ?_
  show own_Go p e below _ (T23.setTop (mkF m 50 #[.val (.int x0), .val (.int x1), .val (.int (1 : Int32)), .val (.int (1 : Int32)), .val (.ref r_TRUE), .val (.ref r_TRUE), .unset] [(.ref r_TRUE)]))
  refine own_cv X23 hx hZ hown (notFace_of_selects (args := #[]) (mvT hZ (hw _ (own_m 11 rfl)))) (hw _ (own_m 8 rfl)) (hw _ (own_m 9 rfl)) (hw _ (own_m 11 rfl)) (hw _ (own_m 10 rfl)) (hw _ (own_m 2 rfl)) (hw _ (own_m 12 rfl)) (by decide) E_TRUE (rm := { frames := 0, cells := 0, slots := 0, locals := 0 }) (rm_a6_value l Z a0 hw [] r_TRUE h0 n0 Z0 F_TRUE_value) (by decide) (W := 0) (by decide) (by decide) (by decide) e23 (by rw [hml]; rfl) (argsL := []) (lenOf own_pd1 rfl) (rest := []) rfl rfl (Nat.le_of_eq rfl) (hb hby at_50) ?_
  intro _ T24 L24 X24 hQ24
  obtain ⟨rfl, N24q, e24⟩ := hQ24
  have N24 := Fr.app N23 N24q
  show own_Go p e below _ (T24.setTop (mkF m 53 #[.val (.int x0), .val (.int x1), .val (.int (1 : Int32)), .val (.int (1 : Int32)), .val (.ref r_TRUE), .val (.ref r_TRUE), .unset] [(.int (1 : Int32))]))
  refine own_go (fun _ hr => XS.iloadN X24.here hx rfl (hb hby at_53) rfl (XS.icmpYes X24.here hx rfl (pc0 := 54) (pc' := 59) rfl (hb hby at_54) rfl (teq (by decide)).1 (by decide) (by decide) (XS.aload X24.here hx rfl (hb hby at_59) rfl rfl hr))) ?_
  show own_Go p e below _ (T24.setTop (mkF m 61 #[.val (.int x0), .val (.int x1), .val (.int (1 : Int32)), .val (.int (1 : Int32)), .val (.ref r_TRUE), .val (.ref r_TRUE), .unset] [(.ref r_TRUE)]))
  refine own_cv X24 hx hZ hown (notFace_of_selects (args := #[]) (mvT hZ (hw _ (own_m 11 rfl)))) (hw _ (own_m 8 rfl)) (hw _ (own_m 9 rfl)) (hw _ (own_m 11 rfl)) (hw _ (own_m 10 rfl)) (hw _ (own_m 2 rfl)) (hw _ (own_m 12 rfl)) (by decide) E_TRUE (rm := { frames := 0, cells := 0, slots := 0, locals := 0 }) (rm_a6_value l Z a0 hw [] r_TRUE h0 n0 Z0 F_TRUE_value) (by decide) (W := 0) (by decide) (by decide) (by decide) e24 (by rw [hml]; rfl) (argsL := []) (lenOf own_pd1 rfl) (rest := []) rfl rfl (Nat.le_of_eq rfl) (hb hby at_61) ?_
  intro _ T25 L25 X25 hQ25
  obtain ⟨rfl, N25q, e25⟩ := hQ25
  have N25 := Fr.app N24 N25q
  show own_Go p e below _ (T25.setTop (mkF m 64 #[.val (.int x0), .val (.int x1), .val (.int (1 : Int32)), .val (.int (1 : Int32)), .val (.ref r_TRUE), .val (.ref r_TRUE), .unset] [(.int (1 : Int32))]))
  refine own_go (fun _ hr => XS.iloadN X25.here hx rfl (hb hby at_64) rfl (XS.icmpYes X25.here hx rfl (pc0 := 65) (pc' := 70) rfl (hb hby at_65) rfl (teq (by decide)).1 (by decide) (by decide) (XS.iloadN X25.here hx rfl (hb hby at_70) rfl (XS.ifNo X25.here hx rfl (hb hby at_71) rfl ((if0 _ _).trans (feq (by decide)).1) (XS.iconst X25.here hx rfl (hb hby at_74) (XS.goto X25.here hx rfl (pc0 := 75) (pc' := 79) rfl (hb hby at_75) (by decide) (by decide) (XS.istore X25.here hx rfl (hb hby at_79) rfl (l' := #[.val (.int x0), .val (.int x1), .val (.int (1 : Int32)), .val (.int (1 : Int32)), .val (.ref r_TRUE), .val (.ref r_TRUE), .val (.int (1 : Int32))]) rfl (XS.aload X25.here hx rfl (hb hby at_81) rfl rfl hr)))))))) ?_
  show own_Go p e below _ (T25.setTop (mkF m 83 #[.val (.int x0), .val (.int x1), .val (.int (1 : Int32)), .val (.int (1 : Int32)), .val (.ref r_TRUE), .val (.ref r_TRUE), .val (.int (1 : Int32))] [(.ref r_TRUE)]))
  refine own_cv X25 hx hZ hown (notFace_of_selects (args := #[]) (mvT hZ (hw _ (own_m 18 rfl)))) (hw _ (own_m 15 rfl)) (hw _ (own_m 16 rfl)) (hw _ (own_m 18 rfl)) (hw _ (own_m 17 rfl)) (hw _ (own_m 2 rfl)) (hw _ (own_m 19 rfl)) (by decide) E_TRUE (rm := { frames := 0, cells := 0, slots := 0, locals := 0 }) (rm_a8_keyByte l Z a0 hw [] r_TRUE h0 n0 Z0 F_TRUE_value) (by decide) (W := 0) (by decide) (by decide) (by decide) e25 (by rw [hml]; rfl) (argsL := []) (lenOf own_pd2 rfl) (rest := []) rfl rfl (Nat.le_of_eq rfl) (hb hby at_83) ?_
  intro _ T26 L26 X26 hQ26
  obtain ⟨rfl, N26q, e26⟩ := hQ26
  have N26 := Fr.app N25 N26q
  show own_Go p e below _ (T26.setTop (mkF m 86 #[.val (.int x0), .val (.int x1), .val (.int (1 : Int32)), .val (.int (1 : Int32)), .val (.ref r_TRUE), .val (.ref r_TRUE), .val (.int (1 : Int32))] [(.int (1 : Int32))]))
  refine own_go (fun _ hr => XS.iload X26.here hx rfl (hb hby at_86) rfl (XS.i2b X26.here hx rfl (hb hby at_88) rfl (XS.icmpYes X26.here hx rfl (pc0 := 89) (pc' := 94) rfl (hb hby at_89) rfl (teq (by decide)).1 (by decide) (by decide) (XS.aload X26.here hx rfl (hb hby at_94) rfl rfl (XS.aload X26.here hx rfl (hb hby at_96) rfl rfl hr))))) ?_
  show own_Go p e below _ (T26.setTop (mkF m 98 #[.val (.int x0), .val (.int x1), .val (.int (1 : Int32)), .val (.int (1 : Int32)), .val (.ref r_TRUE), .val (.ref r_TRUE), .val (.int (1 : Int32))] [(.ref r_TRUE), (.ref r_TRUE)]))
  refine own_cv X26 hx hZ hown (notFace_of_selects (args := #[]) (mvT hZ (hw _ (own_m 23 rfl)))) (hw _ (own_m 20 rfl)) (hw _ (own_m 21 rfl)) (hw _ (own_m 23 rfl)) (hw _ (own_m 22 rfl)) (hw _ (own_m 2 rfl)) (hw _ (own_m 24 rfl)) (by decide) E_TRUE (rm := { frames := 0, cells := 0, slots := 0, locals := 0 }) (rm_a10_equals l Z a0 hw [] r_TRUE h0 n0 Z0 E_TRUE F_TRUE_value) (by decide) (W := 0) (by decide) (by decide) (by decide) e26 (by rw [hml]; rfl) (argsL := [(.ref r_TRUE)]) (lenOf own_pd3 rfl) (rest := []) rfl rfl (Nat.le_of_eq rfl) (hb hby at_98) ?_
  intro _ T27 L27 X27 hQ27
  obtain ⟨rfl, N27q, e27⟩ := hQ27
  have N27 := Fr.app N26 N27q
  show own_Go p e below _ (T27.setTop (mkF m 101 #[.val (.int x0), .val (.int x1), .val (.int (1 : Int32)), .val (.int (1 : Int32)), .val (.ref r_TRUE), .val (.ref r_TRUE), .val (.int (1 : Int32))] [(.int (1 : Int32))]))
  refine own_go (fun _ hr => XS.iloadN X27.here hx rfl (hb hby at_101) rfl (XS.iloadN X27.here hx rfl (hb hby at_102) rfl (XS.icmpNo X27.here hx rfl (hb hby at_103) rfl (teq (by decide)).2 (XS.iconst X27.here hx rfl (hb hby at_106) (XS.goto X27.here hx rfl (pc0 := 107) (pc' := 111) rfl (hb hby at_107) (by decide) (by decide) (XS.icmpNo X27.here hx rfl (hb hby at_111) rfl (teq (by decide)).2 (XS.iconst X27.here hx rfl (hb hby at_114) (XS.goto X27.here hx rfl (pc0 := 115) (pc' := 119) rfl (hb hby at_115) (by decide) (by decide) hr)))))))) ?_
  show own_Go p e below _ (T27.setTop (mkF m 119 #[.val (.int x0), .val (.int x1), .val (.int (1 : Int32)), .val (.int (1 : Int32)), .val (.ref r_TRUE), .val (.ref r_TRUE), .val (.int (1 : Int32))] [(.int (1 : Int32))]))
  exact own_retN X27 hx hlk Bd.returns (t := .boolean) (by simp) (hb hby at_119) (by decide) (by decide) ⟨rfl, N27⟩
set_option maxRecDepth 65536 in
set_option maxHeartbeats 40000000 in
theorem comes_1 {Post : Tables → Env → Array Value → State → Outcome → State → Prop} (hpost : ∀ tb e args s v u, (limb_1_1.after args s (.returned v) u = true ∧ limb_1_2.after args s (.returned v) u = true ∧ True) → FrameEnd s (.returned v) u (Jvm.fieldLocs frame_1_writes args s ++ Jvm.arrayLocs frame_1_arrays args s ++ Jvm.staticLocs frame_1_statics s) 0 0 → Post tb e args s (.returned v) u) :
    ArmFor flags0 classFile x code maxLocals ret World_1 tables_1 room_1 Calls_1 rest_1 Pre_1 Post := by
  intro l hfl _ _ p e ha hc hk s m args below hf hA hF happ hP
  obtain ⟨hcalls, hrest, hpre⟩ := hP
  obtain ⟨-, -, -, hnamed, -, -, -, hat⟩ := (Spec.applies_iff hf).mp happ
  obtain ⟨hg, hn⟩ := and_e (Cond.before_iff.mp (show (Jvm.Cond.and given_1 narrow_1).before args s = true from hpre))
  obtain ⟨g1, g2⟩ := and_e hg
  obtain ⟨g3, g4⟩ := and_e g2
  obtain ⟨w0, w1, rfl⟩ : ∃ w0 w1 : Value, args = #[w0, w1] := by
    have hs : args.size = 2 := by simpa [Cond.value, given_1] using g1
    obtain ⟨L⟩ := args
    match L, hs with
    | [w0, w1], _ => exact ⟨w0, w1, rfl⟩
  have hw := fun d (hd : d ∈ tables_1) => atoms_spec (ws := Jvm.Cond.code x code maxLocals ret :: tables_1) hat d (List.mem_cons_of_mem _ hd)
  have hfit : Fit s := fun {y c} hc i hi => by
    obtain ⟨ha, rfl⟩ := Array.getElem?_eq_some_iff.mp hc
    have q := List.all_eq_true.mp ((Array.all_eq_true_iff_forall_mem.mp hF) _ (Array.getElem_mem ha)) i (List.mem_range.mpr hi)
    simpa [Array.getElem?_eq_getElem hi] using q
  obtain ⟨i0, ei0⟩ := is_v g3
  obtain rfl : w0 = (.int i0) := Option.some.inj ei0
  obtain ⟨i1, ei1⟩ := is_v g4
  obtain rfl : w1 = (.int i1) := Option.some.inj ei1
  obtain ⟨g5, g6⟩ := and_e hn
  obtain ⟨g7, g8⟩ := and_e g6
  obtain ⟨g9, g10⟩ := and_e g8
  obtain ⟨r_FALSE, er_FALSE⟩ := exa_v g5
  have S_FALSE := Sta.start er_FALSE (Or.inr ⟨(hw _ (own_m 2 rfl)), (hw _ (own_m 5 rfl))⟩)
  have E_FALSE := Exa.start er_FALSE g5
  obtain ⟨r_TRUE, er_TRUE⟩ := exa_v g7
  have S_TRUE := Sta.start er_TRUE (Or.inr ⟨(hw _ (own_m 2 rfl)), (hw _ (own_m 7 rfl))⟩)
  have E_TRUE := Exa.start er_TRUE g7
  have F_FALSE_value := Fld.start ((fld_at er_FALSE).symm.trans (own_eq_int g9))
  have F_TRUE_value := Fld.start ((fld_at er_TRUE).symm.trans (own_eq_int g10))
  obtain ⟨n, o, h1, h2, h3, _, L, rfl, ⟨rfl, N⟩, hq⟩ := rm_law l s _ hw tables_1 i0 i1 r_FALSE r_TRUE s.heap s.heap.size (Nat.le_refl _) S_FALSE E_FALSE F_FALSE_value S_TRUE E_TRUE F_TRUE_value p e ha hc hk s m _ below hf ((Spec.applies_iff_loose hf).mp happ).1 ⟨rfl, State.Warmed39.refl s, rfl⟩ trivial
  refine ⟨n, _, h1, h2, h3, hpost _ _ _ _ _ _ ⟨Cond.after_iff.mpr rfl, Cond.after_iff.mpr (eq_i res_at (Term.int_eval (1)) rfl), trivial⟩ ⟨hq.1, hq.2.1, (hq.2.2.sift fun y hy => Or.inr (N y hy)).mono (by decide) (by decide)⟩⟩
theorem main_1_1 : Claimed_1_1 := comes_1 fun _ _ _ _ _ _ h hF => ⟨h.1, hF⟩
theorem main_1_2 : Claimed_1_2 := comes_1 fun _ _ _ _ _ _ h hF => ⟨h.2.1, hF⟩
end Jvm.Pilot.@@N@@
namespace Jvm.Pilot.@@N@@
open Jvm Jvm.ClassFile Sem Op Lib Jvm.Free Jvm.Stand Jvm.Pilot.@@N@@.Jvm.D
/-! MADE BY PROGRAM (witnessworld.py) out of the Statement's table words and the real class files: 10 classes; the members and pool entries that the words name. The judged class is class 1, her method 1. -/
namespace start1
open Jvm.ClassFile
def u (s : String) : CpInfo := .utf8 (stringToUtf16 s)
/-- a pool by its gaps: so many unusable entries, then the entry; so many at the end -/
def gap : Nat → List CpInfo → List CpInfo
  | 0, r => r
  | n + 1, r => .unusable :: gap n r
def poolList (es : List (Nat × CpInfo)) (last : Nat) : List CpInfo := es.foldr (fun e r => gap e.1 (e.2 :: r)) (gap last [])
def pool (es : List (Nat × CpInfo)) (last : Nat) : Array CpInfo := ⟨poolList es last⟩
def fileOf (pool : Array CpInfo) (this : Nat) (attrs : Array Attribute := #[]) (ms : Array MethodInfo := #[]) (fl : Nat := 33) (sup : Nat := 0) (ifs : Array Nat := #[]) (fds : Array FieldInfo := #[]) : ClassFile where
  minorVersion := 0
  majorVersion := 65
  constantPool := pool
  accessFlags := fl
  thisClass := this
  superClass := sup
  interfaces := ifs
  fields := fds
  methods := ms
  attributes := attrs
def plain (name : String) (sup : Option ClassId) : Class where
  name := name
  kind := .ordinary
  loader := none
  accessFlags := 33
  super := sup
  interfaces := #[]
  cf := none
  fields := #[]
  methods := #[]
  instanceTypes := #[]
  staticTypes := #[]
  resolved := #[]
  callSites := []
  init := .initialized
  statics := none
  mirror := none

def pool0 : Array CpInfo := pool [(5, u "<init>"), (0, u "()V"), (1, .class_ 10), (1, u "java/lang/Object")] 113

def k0m0 : Method := { name := "<init>", desc := "()V", sig := { parameters := [], returnType := none }, accessFlags := 1, code := none }
/-- java/lang/Object -/
def k0 : Class := { plain "java/lang/Object" none with
  accessFlags := 33
  interfaces := #[]
  cf := some (fileOf pool0 8 #[] #[{ accessFlags := 1, nameIndex := 5, descriptorIndex := 6, attributes := #[] }] 33 0 #[] #[])
  fields := #[]
  methods := #[k0m0]
  instanceTypes := #[]
  staticTypes := #[]
  resolved := Array.replicate 124 none
  statics := none }

def pool1 : Array CpInfo := pool [(2, .class_ 4), (1, u "java/lang/Object"), (0, u "<init>"), (0, u "()V"), (0, .methodref 8 9), (0, .class_ 10), (0, .nameAndType 11 12), (0, u "com/example/libsortkey/libsortkey/values/BooleanValue"), (0, u "of"), (0, u "(Z)Lcom/example/libsortkey/libsortkey/values/BooleanValue;"), (0, .methodref 8 14), (0, .nameAndType 15 16), (0, u "value"), (0, u "()Z"), (0, .methodref 8 18), (0, .nameAndType 19 20), (0, u "keyByte"), (0, u "()B"), (0, .methodref 8 22), (0, .nameAndType 23 24), (0, u "equals"), (0, u "(Ljava/lang/Object;)Z"), (0, .class_ 26), (0, u "com/example/libsortkey/libsortkey/values/BooleanValueOfPinLaw"), (2, u "law"), (0, u "(II)Z")] 3

def k1m0 : Method := { name := "<init>", desc := "()V", sig := { parameters := [], returnType := none }, accessFlags := 2, code := none }
def k1c1 : Code := { maxStack := 3, maxLocals := 7, code := code, exceptionTable := #[], attributes := #[] }
def k1m1 : Method := { name := "law", desc := "(II)Z", sig := { parameters := [.int, .int], returnType := some .boolean }, accessFlags := 9, code := some k1c1 }
/-- com/example/libsortkey/libsortkey/values/BooleanValueOfPinLaw -/
def k1 : Class := { plain "com/example/libsortkey/libsortkey/values/BooleanValueOfPinLaw" (some 0) with
  accessFlags := 49
  interfaces := #[]
  cf := some (fileOf pool1 25 #[] #[{ accessFlags := 2, nameIndex := 5, descriptorIndex := 6, attributes := #[] }, { accessFlags := 9, nameIndex := 29, descriptorIndex := 30, attributes := #[] }] 49 2 #[] #[])
  fields := #[]
  methods := #[k1m0, k1m1]
  instanceTypes := #[]
  staticTypes := #[]
  resolved := Array.replicate 34 none
  statics := none }

def pool2 : Array CpInfo := pool [(2, .class_ 4), (1, u "java/lang/Object"), (0, u "<init>"), (0, u "()V"), (20, .class_ 28), (0, u "com/example/libsortkey/libsortkey/values/AtomicValue"), (92, u "MAX_TIMEZONE_SECONDS"), (0, u "I")] 55

def k2m0 : Method := { name := "<init>", desc := "()V", sig := { parameters := [], returnType := none }, accessFlags := 0, code := none }
/-- com/example/libsortkey/libsortkey/values/AtomicValue -/
def k2 : Class := { plain "com/example/libsortkey/libsortkey/values/AtomicValue" (some 0) with
  accessFlags := 1057
  interfaces := #[]
  cf := some (fileOf pool2 27 #[] #[{ accessFlags := 0, nameIndex := 5, descriptorIndex := 6, attributes := #[] }] 1057 2 #[] #[{ accessFlags := 26, nameIndex := 121, descriptorIndex := 122, attributes := #[] }])
  fields := #[{ name := "MAX_TIMEZONE_SECONDS", type := .int, accessFlags := 26, slot := 0, constantValue := 0 }]
  methods := #[k2m0]
  instanceTypes := #[]
  staticTypes := #[.int]
  resolved := Array.replicate 178 none
  statics := none }

def pool3 : Array CpInfo := pool [(2, .class_ 4), (1, u "com/example/libsortkey/libsortkey/values/AtomicValue"), (2, .fieldref 8 9), (0, .class_ 10), (0, .nameAndType 11 12), (0, u "com/example/libsortkey/libsortkey/values/BooleanValue"), (0, u "value"), (0, u "Z"), (0, .fieldref 8 14), (0, .nameAndType 15 16), (0, u "TRUE"), (0, u "Lcom/example/libsortkey/libsortkey/values/BooleanValue;"), (0, .fieldref 8 18), (0, .nameAndType 19 16), (0, u "FALSE"), (2, u "LEXICAL"), (0, u "Ljava/util/regex/Pattern;"), (18, u "equals"), (0, u "(Ljava/lang/Object;)Z"), (4, u "of"), (0, u "(Z)Lcom/example/libsortkey/libsortkey/values/BooleanValue;"), (7, u "keyByte"), (0, u "()B"), (36, u "()Z")] 14

def k3c0 : Code := { maxStack := 1, maxLocals := 1, code := prog_19_method_2_code, exceptionTable := #[], attributes := #[] }
def k3m0 : Method := { name := "of", desc := "(Z)Lcom/example/libsortkey/libsortkey/values/BooleanValue;", sig := { parameters := [.boolean], returnType := some (.object "com/example/libsortkey/libsortkey/values/BooleanValue") }, accessFlags := 9, code := some k3c0 }
def k3c1 : Code := { maxStack := 1, maxLocals := 1, code := prog_19_method_4_code, exceptionTable := #[], attributes := #[] }
def k3m1 : Method := { name := "value", desc := "()Z", sig := { parameters := [], returnType := some .boolean }, accessFlags := 1, code := some k3c1 }
def k3c2 : Code := { maxStack := 1, maxLocals := 1, code := prog_19_method_9_code, exceptionTable := #[], attributes := #[] }
def k3m2 : Method := { name := "keyByte", desc := "()B", sig := { parameters := [], returnType := some .byte }, accessFlags := 0, code := some k3c2 }
def k3c3 : Code := { maxStack := 2, maxLocals := 2, code := prog_19_method_10_code, exceptionTable := #[], attributes := #[] }
def k3m3 : Method := { name := "equals", desc := "(Ljava/lang/Object;)Z", sig := { parameters := [(.object "java/lang/Object")], returnType := some .boolean }, accessFlags := 1, code := some k3c3 }
/-- com/example/libsortkey/libsortkey/values/BooleanValue -/
def k3 : Class := { plain "com/example/libsortkey/libsortkey/values/BooleanValue" (some 2) with
  accessFlags := 49
  interfaces := #[]
  cf := some (fileOf pool3 8 #[] #[{ accessFlags := 9, nameIndex := 48, descriptorIndex := 49, attributes := #[] }, { accessFlags := 1, nameIndex := 11, descriptorIndex := 95, attributes := #[] }, { accessFlags := 0, nameIndex := 57, descriptorIndex := 58, attributes := #[] }, { accessFlags := 1, nameIndex := 42, descriptorIndex := 43, attributes := #[] }] 49 2 #[] #[{ accessFlags := 26, nameIndex := 22, descriptorIndex := 23, attributes := #[] }, { accessFlags := 26, nameIndex := 15, descriptorIndex := 16, attributes := #[] }, { accessFlags := 26, nameIndex := 19, descriptorIndex := 16, attributes := #[] }, { accessFlags := 18, nameIndex := 11, descriptorIndex := 12, attributes := #[] }])
  fields := #[{ name := "LEXICAL", type := (.object "java/util/regex/Pattern"), accessFlags := 26, slot := 0, constantValue := 0 }, { name := "TRUE", type := (.object "com/example/libsortkey/libsortkey/values/BooleanValue"), accessFlags := 26, slot := 1, constantValue := 0 }, { name := "FALSE", type := (.object "com/example/libsortkey/libsortkey/values/BooleanValue"), accessFlags := 26, slot := 2, constantValue := 0 }, { name := "value", type := .boolean, accessFlags := 18, slot := 0, constantValue := 0 }]
  methods := #[k3m0, k3m1, k3m2, k3m3]
  instanceTypes := #[.boolean]
  staticTypes := #[(.object "java/util/regex/Pattern"), (.object "com/example/libsortkey/libsortkey/values/BooleanValue"), (.object "com/example/libsortkey/libsortkey/values/BooleanValue")]
  resolved := Array.replicate 110 none
  statics := some 0 }

def pool4 : Array CpInfo := pool [(1, u "java/lang/Cloneable"), (0, .class_ 1), (0, u "java/lang/Object"), (0, .class_ 3)] 3

/-- java/lang/Cloneable -/
def k4 : Class := { plain "java/lang/Cloneable" (some 0) with
  accessFlags := 1537
  interfaces := #[]
  cf := some (fileOf pool4 2 #[] #[] 1537 4 #[] #[])
  fields := #[]
  methods := #[]
  instanceTypes := #[]
  staticTypes := #[]
  resolved := Array.replicate 8 none
  statics := none }

def pool5 : Array CpInfo := pool [(1, u "java/io/Serializable"), (0, .class_ 1), (0, u "java/lang/Object"), (0, .class_ 3)] 3

/-- java/io/Serializable -/
def k5 : Class := { plain "java/io/Serializable" (some 0) with
  accessFlags := 1537
  interfaces := #[]
  cf := some (fileOf pool5 2 #[] #[] 1537 4 #[] #[])
  fields := #[]
  methods := #[]
  instanceTypes := #[]
  staticTypes := #[]
  resolved := Array.replicate 8 none
  statics := none }

/-- the primitive byte -/
def k6 : Class := { plain "byte" none with kind := .primitive 'B', accessFlags := 0x411 }
/-- [B -/
def k7 : Class := { plain "[B" (some 0) with kind := .array 6 .byte, interfaces := #[4, 5], accessFlags := 1041 }

/-- the primitive int -/
def k8 : Class := { plain "int" none with kind := .primitive 'I', accessFlags := 0x411 }
/-- [I -/
def k9 : Class := { plain "[I" (some 0) with kind := .array 8 .int, interfaces := #[4, 5], accessFlags := 1041 }

def heap : Heap := #[{ cls := 3, slots := #[.null, .ref 2, .ref 1], vm := .statics 3 },
  { cls := 3, slots := #[.int 0], vm := .none },
  { cls := 3, slots := #[.int 1], vm := .none }]
def classes : Array Class := #[k0, k1, k2, k3, k4, k5, k6, k7, k8, k9]
def interned : List (Array UInt16 × Addr) := []
def slotsUsed : Nat := 5
def theMethod : MethodId := ⟨1, 1⟩
def args0 : Array Value := #[.int 5, .int 5]
def aboutOver (below : List Frame) : State where
  vm := { classes := classes, interned := interned.toArray }
  heap := heap
  slotsUsed := slotsUsed
  threads := #[{ frames := .invoking theMethod args0 :: below }]
def below0 : List Frame := [.native { method := ⟨0, 0⟩, args := #[] }]
def about1 : State := aboutOver below0
def p0 : Program := .bare "" "" ""
def e0 : Env := launch0.env 0 0 0
theorem w_frames : about1.frames = Frame.invoking theMethod args0 :: below0 := rfl
set_option maxRecDepth 65536 in
theorem w_args : argsFit about1.vm theMethod args0 = true := by decide +kernel
set_option maxRecDepth 65536 in
theorem w_heap : heapFits about1 = true := by decide +kernel
set_option maxRecDepth 65536 in
theorem w_runnable : about1.curStatus? = some .runnable := by decide +kernel
set_option maxRecDepth 65536 in
theorem w_alone : about1.alone = true := by decide +kernel
set_option maxRecDepth 65536 in
theorem w_named : about1.methodNamed? x = some theMethod := by decide +kernel
set_option maxRecDepth 65536 in
theorem w_hears : about1.hears theMethod below0 = true := by decide +kernel
set_option maxRecDepth 65536 in
theorem w_ripe : about1.ripe theMethod args0 below0 = true := by decide +kernel
theorem w_running : about1.status = .running := rfl
set_option maxRecDepth 65536 in
theorem w_room : about1.hasRoom e0.platform room_1 = true :=
  launch0.hasRoom_least _ room_1 (by decide +kernel) (by decide +kernel) (by decide +kernel) (by decide +kernel) (by decide +kernel) (by decide +kernel)
theorem allAtoms_all (ts : List Jvm.Cond) (a : Array Jvm.Value) (st : Jvm.State) : (allAtoms ts).before a st = ts.all (fun c => c.before a st) := by
  induction ts with
  | nil => rfl
  | cons c t ih =>
    show (Jvm.Cond.and c (allAtoms t)).before a st = _
    rw [Jvm.Cond.before_and, ih, List.all_cons]
def words1 : List Jvm.Cond := Jvm.Cond.code x code maxLocals ret :: tables_1
/-- a 'code' word, met by the world's own term for the bytes: nothing is compared byte by byte -/
theorem code_word {y : MethodName} {bytes : ByteArray} {mx : Nat} {rt : Option FieldType} {a : Array Value} {s : State} {m : MethodId} {meth : Method} {c : Code} (h1 : s.methodNamed? y = some m) (h2 : s.vm.method? m = some meth) (h3 : meth.code = some c) (h4 : c.code = bytes)
    (h5 : (c.maxLocals == mx && c.exceptionTable.isEmpty && decide (c.maxStack ≤ mostOperands) && decide (meth.sig.returnType = rt) && !meth.locks && decide (parseMethodDescriptor y.desc = some meth.sig)) = true) : (Jvm.Cond.code y bytes mx rt).before a s = true := by
  simp only [Bool.and_eq_true, beq_iff_eq, Bool.not_eq_true', decide_eq_true_eq] at h5
  obtain ⟨⟨⟨⟨⟨g1, g2⟩, g3⟩, g4⟩, g5⟩, g6⟩ := h5
  simp [Cond.before, Cond.holds, Cond.value, h1, h2, h3, h4, g1, g2, g3, g4, g5, g6]
def isCode : Jvm.Cond → Bool
  | .code _ _ _ _ => true
  | _ => false
theorem all_split {L : List Jvm.Cond} {P : Jvm.Cond → Bool} (h1 : L.all (fun c => isCode c || P c) = true) (h2 : ∀ c ∈ L.filter isCode, P c = true) : L.all P = true := by
  refine List.all_eq_true.mpr fun c hc => ?_
  have h := List.all_eq_true.mp h1 c hc
  rcases Bool.eq_false_or_eq_true (isCode c) with hi | hi
  · exact h2 c (List.mem_filter.mpr ⟨hc, hi⟩)
  · simpa [hi] using h
set_option maxRecDepth 65536 in
theorem w_c0 : (Jvm.Cond.code x code maxLocals ret).before args0 about1 = true := code_word (m := ⟨1, 1⟩) (meth := k1m1) (c := k1c1) (by decide +kernel) rfl rfl rfl (by decide +kernel)
set_option maxRecDepth 65536 in
theorem w_c1 : (Jvm.Cond.code ({ cls := "com/example/libsortkey/libsortkey/values/BooleanValue", name := "of", desc := "(Z)Lcom/example/libsortkey/libsortkey/values/BooleanValue;" } : Jvm.MethodName) prog_19_method_2_code (1 : Nat) (Option.some (Jvm.ClassFile.FieldType.object "com/example/libsortkey/libsortkey/values/BooleanValue"))).before args0 about1 = true := code_word (m := ⟨3, 0⟩) (meth := k3m0) (c := k3c0) (by decide +kernel) rfl rfl rfl (by decide +kernel)
set_option maxRecDepth 65536 in
theorem w_c2 : (Jvm.Cond.code ({ cls := "com/example/libsortkey/libsortkey/values/BooleanValue", name := "value", desc := "()Z" } : Jvm.MethodName) prog_19_method_4_code (1 : Nat) (Option.some Jvm.ClassFile.FieldType.boolean)).before args0 about1 = true := code_word (m := ⟨3, 1⟩) (meth := k3m1) (c := k3c1) (by decide +kernel) rfl rfl rfl (by decide +kernel)
set_option maxRecDepth 65536 in
theorem w_c3 : (Jvm.Cond.code ({ cls := "com/example/libsortkey/libsortkey/values/BooleanValue", name := "keyByte", desc := "()B" } : Jvm.MethodName) prog_19_method_9_code (1 : Nat) (Option.some Jvm.ClassFile.FieldType.byte)).before args0 about1 = true := code_word (m := ⟨3, 2⟩) (meth := k3m2) (c := k3c2) (by decide +kernel) rfl rfl rfl (by decide +kernel)
set_option maxRecDepth 65536 in
theorem w_c4 : (Jvm.Cond.code ({ cls := "com/example/libsortkey/libsortkey/values/BooleanValue", name := "equals", desc := "(Ljava/lang/Object;)Z" } : Jvm.MethodName) prog_19_method_10_code (2 : Nat) (Option.some Jvm.ClassFile.FieldType.boolean)).before args0 about1 = true := code_word (m := ⟨3, 3⟩) (meth := k3m3) (c := k3c3) (by decide +kernel) rfl rfl rfl (by decide +kernel)
def codes1 : List Jvm.Cond := [Jvm.Cond.code x code maxLocals ret, Jvm.Cond.code ({ cls := "com/example/libsortkey/libsortkey/values/BooleanValue", name := "of", desc := "(Z)Lcom/example/libsortkey/libsortkey/values/BooleanValue;" } : Jvm.MethodName) prog_19_method_2_code (1 : Nat) (Option.some (Jvm.ClassFile.FieldType.object "com/example/libsortkey/libsortkey/values/BooleanValue")), Jvm.Cond.code ({ cls := "com/example/libsortkey/libsortkey/values/BooleanValue", name := "value", desc := "()Z" } : Jvm.MethodName) prog_19_method_4_code (1 : Nat) (Option.some Jvm.ClassFile.FieldType.boolean), Jvm.Cond.code ({ cls := "com/example/libsortkey/libsortkey/values/BooleanValue", name := "keyByte", desc := "()B" } : Jvm.MethodName) prog_19_method_9_code (1 : Nat) (Option.some Jvm.ClassFile.FieldType.byte), Jvm.Cond.code ({ cls := "com/example/libsortkey/libsortkey/values/BooleanValue", name := "equals", desc := "(Ljava/lang/Object;)Z" } : Jvm.MethodName) prog_19_method_10_code (2 : Nat) (Option.some Jvm.ClassFile.FieldType.boolean)]
set_option maxRecDepth 65536 in
theorem codes_eq : words1.filter isCode = codes1 := rfl
theorem w_codes : ∀ c ∈ words1.filter isCode, c.before args0 about1 = true := by
  rw [codes_eq]
  intro c hc
  simp only [codes1, List.mem_cons, List.not_mem_nil, or_false] at hc
  rcases hc with rfl | rfl | rfl | rfl | rfl
  · exact w_c0
  · exact w_c1
  · exact w_c2
  · exact w_c3
  · exact w_c4
set_option maxRecDepth 65536 in
theorem w_t1 : (words1.take 24).all (fun c => isCode c || c.before args0 about1) = true := by decide +kernel
set_option maxRecDepth 65536 in
theorem w_t2 : (words1.drop 24).all (fun c => isCode c || c.before args0 about1) = true := by decide +kernel
theorem w_tables : (allAtoms (Jvm.Cond.code x code maxLocals ret :: tables_1)).before args0 about1 = true := by
  rw [allAtoms_all]
  show words1.all (fun c => c.before args0 about1) = true
  refine all_split ?_ w_codes
  rw [← List.take_append_drop 24 words1, List.all_append, w_t1, w_t2]
  rfl
set_option maxRecDepth 65536 in
theorem w_case : (Jvm.Cond.and given_1 narrow_1).before args0 about1 = true := by decide +kernel
theorem w_applies : (headSpec (Jvm.Cond.code x code maxLocals ret :: tables_1) room_1).applies x e0.platform about1 = true :=
  (Spec.applies_iff w_frames).mpr ⟨w_running, w_runnable, w_alone, w_named, w_hears, w_ripe, w_room, w_tables⟩
theorem atStart : AtStart classFile x code maxLocals ret World_1 tables_1 room_1 Calls_1 rest_1 Pre_1 launch0 p0 e0 about1 theMethod args0 below0 :=
  ⟨lists_1, trivial, launch0.admits_env _ _ _, launch0.least_env, fairChoices_fair.cas, fairChoices_fair.clock, w_frames, w_args, w_heap, w_applies, trivial, trivial, w_case⟩
end start1
theorem witness_1 : WitnessClaimed_1 := ⟨start1.p0, start1.e0, start1.about1, start1.theMethod, start1.args0, start1.below0, start1.atStart⟩
end Jvm.Pilot.@@N@@
