import JvmDerived
import JvmDerived.Pilot.@@N@@Statement
import JvmDerived.Pilot.@@N@@Code
set_option linter.unusedVariables false
set_option linter.unusedSimpArgs false
namespace Jvm.OwnKit
open Sem ClassFile Op Lib Jvm.Stand Jvm.Free Jvm.LawKit Jvm.RoadKit
def k_ushr (x y : Int32) : Int32 := (x.toUInt32 >>> (y &&& 31).toUInt32).toInt32
def k_ushrL (x : Int64) (y : Int32) : Int64 := (x.toUInt64 >>> (y &&& 63).toInt64.toUInt64).toInt64
def k_cmpL (x y : Int64) : Int32 := if x > y then 1 else if x = y then 0 else -1
/-- the state over whose tables the walk stands: the start itself, or (wd: a String constant may have been interned meanwhile) the start with tables grown since -/
def KBase (wd : Bool) (s s' : State) (n : Nat) : Prop := match wd with
  | true => ∃ (vm : Vm) (k : Nat), s' = s.setVm vm ∧ s.Since vm k ∧ k ≤ n
  | false => s' = s
/-- where a run stands: the state T with the heap h; what was written lies at n0 or above; of h0 all is kept but ws -/
def KPos (wd : Bool) (p : Program) (l : Launch) (e : Env) (R : Room) (s : State) (m : MethodId) (args : Array Value) (below : List Frame) (meth : Method) (c : Code) (Z : State) (own : String) (n0 : Nat) (h0 : Heap) (ws : List Addr) (T : State) (h : Heap) (cells slots : Nat) : Prop :=
  ∃ s' locs, Stand p l e R s' m args below meth c T locs cells slots ∧ KBase wd s s' h.size ∧ Z.Warmed39 s'.vm ∧ s'.vm.findClass own = some m.cls ∧ T.heap = h ∧ n0 ≤ h.size ∧ Fr n0 locs ∧ Keep h0 h ws
/-- what stands still in a body's walk -/
def KCx (tbl : List Jvm.Cond) (nm : String) (cod : ByteArray) (ml : Nat) (ret : Option FieldType) (p : Program) (meth : Method) (c : Code) (Z : State) (a0 : Array Value) : Prop :=
  p.tables.exec = Jvm.exec ∧ (∀ d ∈ tbl, d.before a0 Z = true) ∧ c.code = cod ∧ c.maxLocals = ml ∧ meth.sig.returnType = ret ∧ meth.name = nm ∧ meth.locks = false
/-- from this frame the run comes to an end that K speaks of -/
def KGo (p : Program) (e : Env) (below : List Frame) (K : State → Outcome → Prop) (T : State) (m : MethodId) (pc : Nat) (Ls : Array Slot) (st : List Value) : Prop :=
  ∃ s₂ o, Steps p.tables e below (T.setTop (mkF m pc Ls st)) s₂ ∧ s₂.status = .running ∧ Ended s₂ below o ∧ K s₂ o
/-- the frame of an end -/
def KEnde (wd : Bool) (s : State) (o : Outcome) (s₂ : State) (L : List Loc) (kc ks : Nat) : Prop := match wd with
  | true => ReturnedEndW s o s₂ L kc ks
  | false => FrameEnd s o s₂ L kc ks
/-- the end of a body that returns -/
def KEnd (wd : Bool) (s : State) (n0 : Nat) (h0 : Heap) (ws : List Addr) (Q : Option Value → Heap → Prop) (kc ks : Nat) (s₂ : State) (o : Outcome) : Prop :=
  ∃ v L, o = .returned v ∧ (Fr n0 L ∧ Keep h0 s₂.heap ws ∧ Q v s₂.heap) ∧ KEnde wd s o s₂ L kc ks
/-- a body's contract -/
def KCt (wd : Bool) (l : Launch) (y : MethodName) (cod : ByteArray) (ml : Nat) (ret : Option FieldType) (rm : Room) (Z : State) (n0 : Nat) (h0 : Heap) (as : Array Value) (ws : List Addr) (Q : Option Value → Heap → Prop) : Prop :=
  ∀ wsc : List Jvm.Cond, MetFree l y (head1 (Jvm.Cond.code y cod ml ret :: wsc) rm) (fun a U => a = as ∧ Z.Warmed39 U.vm ∧ U.heap = h0) (fun _ _ _ _ _ => True)
    (fun _ U o U' => ∃ v L, o = .returned v ∧ (Fr n0 L ∧ Keep h0 U'.heap ws ∧ Q v U'.heap) ∧ KEnde wd U o U' L rm.cells rm.slots)
section Kit
variable {wd : Bool} {p : Program} {l : Launch} {e : Env} {R : Room} {s : State} {m : MethodId} {args : Array Value} {below : List Frame} {meth : Method} {c : Code} {T : State} {cells slots : Nat} {Z : State} {a0 : Array Value} {h h' h0 : Heap} {n0 : Nat} {ws : List Addr} {K : State → Outcome → Prop}
  {tbl : List Jvm.Cond} {own nm : String} {cod : ByteArray} {ml : Nat} {ret : Option FieldType} {pc : Nat} {Ls : Array Slot} {st : List Value} {a b : Addr}
theorem KCx.exec (C : KCx tbl nm cod ml ret p meth c Z a0) : p.tables.exec = Jvm.exec := C.1
theorem KCx.hw (C : KCx tbl nm cod ml ret p meth c Z a0) : ∀ d ∈ tbl, d.before a0 Z = true := C.2.1
theorem KCx.cdE (C : KCx tbl nm cod ml ret p meth c Z a0) : c.code = cod := C.2.2.1
theorem KCx.mlE (C : KCx tbl nm cod ml ret p meth c Z a0) : c.maxLocals = ml := C.2.2.2.1
theorem KCx.rtE (C : KCx tbl nm cod ml ret p meth c Z a0) : meth.sig.returnType = ret := C.2.2.2.2.1
theorem KCx.nmE (C : KCx tbl nm cod ml ret p meth c Z a0) : meth.name = nm := C.2.2.2.2.2.1
theorem KCx.lk (C : KCx tbl nm cod ml ret p meth c Z a0) : meth.locks = false := C.2.2.2.2.2.2
theorem KCx.w (C : KCx tbl nm cod ml ret p meth c Z a0) (i : Nat) {d : Jvm.Cond} (q : tbl[i]? = some d) : d.before a0 Z = true := C.hw d (List.mem_of_getElem? q)
theorem KBase.mono {s' : State} {n n' : Nat} (B : KBase wd s s' n) (h : n ≤ n') : KBase wd s s' n' := by
  cases wd
  · exact B
  · obtain ⟨vm, k, h1, h2, h3⟩ := B; exact ⟨vm, k, h1, h2, Nat.le_trans h3 h⟩
theorem KPos.here (P : KPos wd p l e R s m args below meth c Z own n0 h0 ws T h cells slots) : At T m c below := by obtain ⟨_, _, X, -⟩ := P; exact X.here
theorem KPos.more (P : KPos wd p l e R s m args below meth c Z own n0 h0 ws T h cells slots) {cells' slots' : Nat} (hc : cells ≤ cells') (hs : slots ≤ slots') : KPos wd p l e R s m args below meth c Z own n0 h0 ws T h cells' slots' := by
  obtain ⟨s', L, X, r⟩ := P; exact ⟨s', L, X.more hc hs, r⟩
theorem KPos.size (P : KPos wd p l e R s m args below meth c Z own n0 h0 ws T h cells slots) : n0 ≤ h.size := by obtain ⟨_, _, _, _, _, _, _, r, -⟩ := P; exact r
theorem KPos.kept (P : KPos wd p l e R s m args below meth c Z own n0 h0 ws T h cells slots) : Keep h0 h ws := by obtain ⟨_, _, _, _, _, _, _, _, _, r⟩ := P; exact r
theorem KGo.step {T' : State} {pc' : Nat} {Ls' : Array Slot} {st' : List Value} (k : KGo p e below K T' m pc' Ls' st') (q : ∀ t, Steps p.tables e below (T'.setTop (mkF m pc' Ls' st')) t → Steps p.tables e below (T.setTop (mkF m pc Ls st)) t) : KGo p e below K T m pc Ls st := by
  obtain ⟨x, y, u, r⟩ := k; exact ⟨x, y, q _ u, r⟩
theorem KGo.cast {Ls' : Array Slot} {st' : List Value} (k : KGo p e below K T m pc Ls' st') (q : Ls' = Ls) (r : st' = st) : KGo p e below K T m pc Ls st := by subst q r; exact k
/-- a body is entered -/
theorem k_enter {y : MethodName} {rm : Room} {as : Array Value} {Q : Option Value → Heap → Prop} (hp : plainFor y = true) (hw : ∀ d ∈ tbl, d.before a0 Z = true) (hn : n0 ≤ h0.size) (hef : ∀ m, entryFrame m as ml = mkF m 0 Ls [])
    (body : ∀ p e s m below meth c T, KCx tbl y.name cod ml ret p meth c Z a0 → KPos wd p l e rm s m as below meth c Z y.cls n0 h0 ws T h0 0 0 → KGo p e below (KEnd wd s n0 h0 ws Q rm.cells rm.slots) T m 0 Ls []) : KCt wd l y cod ml ret rm Z n0 h0 as ws Q := by
  intro wsc
  refine MetFree.of_bodySF hp hisR ?_
  intro p e s m args below meth c s₁ Bd hml0 hP hK
  obtain ⟨rfl, hZ, hh⟩ := hP
  have B : KBase wd s s h0.size := by
    cases wd
    · rfl
    · exact ⟨s.vm, 0, rfl, State.WarmedH.since (State.WarmedH.refl s) 0, Nat.zero_le _⟩
  have g := body p e s m below meth c s₁ ⟨Bd.exec, hw, Bd.bytes, hml0, Bd.returns, (name_of_methodNamed Bd.named Bd.method).1, Bd.notSynchronized⟩ ⟨s, [], Stand.of_body Bd, B, hZ, findClass_of_methodNamed Bd.named, by rw [← hh, Bd.state]; rfl, hn, Fr.nil _, Keep.refl _ _⟩
  obtain ⟨s₂, o, g1, g2, g3, v, L, g4, g5, g6⟩ := g
  exact ⟨s₂, o, castTop (hef m) g1, g2, g3, v, L, g4, g5, g6⟩
theorem KCt.plain {y : MethodName} {rm : Room} {as : Array Value} {Q : Option Value → Heap → Prop} (k : KCt false l y cod ml ret rm Z n0 h0 as ws Q) : MetFree l y (head1 [Jvm.Cond.code y cod ml ret] rm) (fun a U => a = as ∧ Z.Warmed39 U.vm ∧ U.heap = h0) (fun _ _ _ _ _ => True)
    (fun _ U o U' => ∃ v L, o = .returned v ∧ (Fr n0 L ∧ Keep h0 U'.heap ws ∧ Q v U'.heap) ∧ FrameEnd U o U' L rm.cells rm.slots) := k []
/-- a contract said more weakly -/
theorem KCt.imp {y : MethodName} {rm : Room} {as : Array Value} {Q Q' : Option Value → Heap → Prop} (k : KCt wd l y cod ml ret rm Z n0 h0 as ws Q) (q : ∀ v h, Q v h → Q' v h) : KCt wd l y cod ml ret rm Z n0 h0 as ws Q' := by
  intro wsc p e h1 h2 h3 s m args below h4 h5 h6 h7
  obtain ⟨n, o, g1, g2, g3, v, L, g4, ⟨g5, g6, g7⟩, g8⟩ := k wsc p e h1 h2 h3 s m args below h4 h5 h6 h7
  exact ⟨n, o, g1, g2, g3, v, L, g4, ⟨g5, g6, q _ _ g7⟩, g8⟩
/-! ### returns -/
theorem k_retVal {Q : Option Value → Heap → Prop} {kc ks : Nat} {v : Option Value} (C : KCx tbl nm cod ml ret p meth c Z a0) (P : KPos wd p l e R s m args below meth c Z own n0 h0 ws T h cells slots) (hv : ret = none → v = none) (hc : cells ≤ kc) (hs : slots ≤ ks) (hQ : Q v h)
    (q : ∀ fs, (∀ (f : JFrame) (acts : List Action), f.method = m → f.locked = none → f.entered = [] → (doReturn e (T.setTop f) acts v).1 = T.setFrames fs) → Steps p.tables e below (T.setTop (mkF m pc Ls st)) (T.setFrames fs)) : KGo p e below (KEnd wd s n0 h0 ws Q kc ks) T m pc Ls st := by
  obtain ⟨s', L, X, B, hZ, hown, eT, hn, hF, hk⟩ := P
  have hl : meth.locks = false := C.lk
  have X2 := X.more hc hs
  cases wd
  · cases B
    obtain ⟨fs, hr, hrun, hended, hW, hsame⟩ := X2.leave (v := v) (fun q => hv (C.rtE.symm.trans q)) hl
    exact ⟨_, _, q fs hr, hrun, hended, v, L, rfl, ⟨hF, by show Keep h0 T.heap ws; rw [eT]; exact hk, by show Q v T.heap; rw [eT]; exact hQ⟩, ⟨_, rfl⟩, hW, hsame⟩
  · obtain ⟨vm, k, rfl, hS, hk0⟩ := B
    obtain ⟨fs, hr, hrun, hended, hW⟩ := X2.leaveW hS (by rw [eT]; exact hk0) (v := v) (fun q => hv (C.rtE.symm.trans q)) hl
    exact ⟨_, _, q fs hr, hrun, hended, v, L, rfl, ⟨hF, by show Keep h0 T.heap ws; rw [eT]; exact hk, by show Q v T.heap; rw [eT]; exact hQ⟩, hW⟩
theorem k_retV {Q : Option Value → Heap → Prop} {kc ks : Nat} (C : KCx tbl nm cod ml none p meth c Z a0) (P : KPos wd p l e R s m args below meth c Z own n0 h0 ws T h cells slots) (hd : decode cod pc = .ok (.return_, 1)) (hc : cells ≤ kc) (hs : slots ≤ ks) (hQ : Q none h) : KGo p e below (KEnd wd s n0 h0 ws Q kc ks) T m pc Ls [] :=
  k_retVal C P (fun _ => rfl) hc hs hQ fun fs hr => by obtain ⟨s', L, X, -⟩ := P; exact X.returnOut C.1 C.rtE (hb C.cdE hd) hr
theorem k_retI {Q : Option Value → Heap → Prop} {kc ks : Nat} {z : Int32} (C : KCx tbl nm cod ml (some .int) p meth c Z a0) (P : KPos wd p l e R s m args below meth c Z own n0 h0 ws T h cells slots) (hd : decode cod pc = .ok (.ireturn, 1)) (hc : cells ≤ kc) (hs : slots ≤ ks) (hQ : Q (some (.int z)) h) : KGo p e below (KEnd wd s n0 h0 ws Q kc ks) T m pc Ls (.int z :: st) :=
  k_retVal C P (fun q => nomatch q) hc hs hQ fun fs hr => by
    obtain ⟨s', L, X, -⟩ := P
    exact retOut X C.1 C.rtE (rfl : narrow .int (.int z) = .int z) (Or.inl ⟨rfl, Or.inl rfl, _, rfl⟩) (hb C.cdE hd) hr
theorem k_retZ {Q : Option Value → Heap → Prop} {kc ks : Nat} {z z' : Int32} {t : FieldType} (C : KCx tbl nm cod ml (some t) p meth c Z a0) (P : KPos wd p l e R s m args below meth c Z own n0 h0 ws T h cells slots) (ht : t = .boolean ∨ t = .byte ∨ t = .char ∨ t = .short) (hd : decode cod pc = .ok (.ireturn, 1)) (hz : nar t z = z') (hc : cells ≤ kc) (hs : slots ≤ ks) (hQ : Q (some (.int z')) h) : KGo p e below (KEnd wd s n0 h0 ws Q kc ks) T m pc Ls (.int z :: st) :=
  k_retVal C P (fun q => nomatch q) hc hs hQ fun fs hr => by
    subst hz
    obtain ⟨s', L, X, -⟩ := P
    exact retN X C.1 C.rtE ht (hb C.cdE hd) hr
theorem k_retJ {Q : Option Value → Heap → Prop} {kc ks : Nat} {z : Int64} (C : KCx tbl nm cod ml (some .long) p meth c Z a0) (P : KPos wd p l e R s m args below meth c Z own n0 h0 ws T h cells slots) (hd : decode cod pc = .ok (.lreturn, 1)) (hc : cells ≤ kc) (hs : slots ≤ ks) (hQ : Q (some (.long z)) h) : KGo p e below (KEnd wd s n0 h0 ws Q kc ks) T m pc Ls (.long z :: st) :=
  k_retVal C P (fun q => nomatch q) hc hs hQ fun fs hr => by
    obtain ⟨s', L, X, -⟩ := P
    exact retOut X C.1 C.rtE (rfl : narrow .long (.long z) = .long z) (Or.inr (Or.inl ⟨rfl, rfl, _, rfl⟩)) (hb C.cdE hd) hr
theorem k_retD {Q : Option Value → Heap → Prop} {kc ks : Nat} {z : UInt64} (C : KCx tbl nm cod ml (some .double) p meth c Z a0) (P : KPos wd p l e R s m args below meth c Z own n0 h0 ws T h cells slots) (hd : decode cod pc = .ok (.dreturn, 1)) (hc : cells ≤ kc) (hs : slots ≤ ks) (hQ : Q (some (.double z)) h) : KGo p e below (KEnd wd s n0 h0 ws Q kc ks) T m pc Ls (.double z :: st) :=
  k_retVal C P (fun q => nomatch q) hc hs hQ fun fs hr => by
    obtain ⟨s', L, X, -⟩ := P
    exact retOut X C.1 C.rtE (rfl : narrow .double (.double z) = .double z) (Or.inr (Or.inr (Or.inl ⟨rfl, rfl, _, rfl⟩))) (hb C.cdE hd) hr
theorem k_narrow_ref {t : FieldType} {v : Value} (hv : v.isRef = true) : narrow t v = v := by rcases ref_cases hv with rfl | ⟨x, rfl⟩ <;> cases t <;> rfl
theorem k_retA {Q : Option Value → Heap → Prop} {kc ks : Nat} {v : Value} {t : FieldType} (C : KCx tbl nm cod ml (some t) p meth c Z a0) (P : KPos wd p l e R s m args below meth c Z own n0 h0 ws T h cells slots) (hd : decode cod pc = .ok (.areturn, 1)) (ht : t.isReference = true) (hv : v.isRef = true) (hc : cells ≤ kc) (hs : slots ≤ ks) (hQ : Q (some v) h) : KGo p e below (KEnd wd s n0 h0 ws Q kc ks) T m pc Ls (v :: st) :=
  k_retVal C P (fun q => nomatch q) hc hs hQ fun fs hr => by
    obtain ⟨s', L, X, -⟩ := P
    exact retOut X C.1 C.rtE (k_narrow_ref hv) (Or.inr (Or.inr (Or.inr (Or.inr ⟨rfl, ht, hv⟩)))) (hb C.cdE hd) hr
theorem k_10 : ¬ (1 : Int32) = 0 := by decide
theorem k_01 : (0 : Int32) = 0 := rfl
/-! ### branches -/
def CondP (cd : ClassFile.Cond) (x y : Int32) : Prop := match cd with | .eq => x = y | .ne => ¬ x = y | .lt => x < y | .ge => ¬ x < y | .gt => y < x | .le => ¬ y < x
def CondN (cd : ClassFile.Cond) (x y : Int32) : Prop := match cd with | .eq => ¬ x = y | .ne => x = y | .lt => ¬ x < y | .ge => x < y | .gt => ¬ y < x | .le => y < x
theorem k_condP {cd : ClassFile.Cond} {x y : Int32} (h : CondP cd x y) : if_icmp.holds cd x y = true := by
  cases cd <;> first | exact (teq h).1 | exact (feq h).2 | exact (tlt h).1 | exact (flt h).2.1 | exact (tlt h).2.2.1 | exact (flt h).2.2.2
theorem k_condN {cd : ClassFile.Cond} {x y : Int32} (h : CondN cd x y) : if_icmp.holds cd x y = false := by
  cases cd <;> first | exact (feq h).1 | exact (teq h).2 | exact (flt h).1 | exact (tlt h).2.1 | exact (flt h).2.2.1 | exact (tlt h).2.2.2
theorem k_condT {cd : ClassFile.Cond} (x y : Int32) : CondP cd x y ∨ CondN cd x y := by
  cases cd <;> simp only [CondP, CondN] <;> first | exact Classical.em _ | exact (Classical.em _).symm
theorem k_ifY {cd : ClassFile.Cond} {x : Int32} {o : Int} (C : KCx tbl nm cod ml ret p meth c Z a0) (P : KPos wd p l e R s m args below meth c Z own n0 h0 ws T h cells slots) (hd : decode cod pc = .ok (.ifCond cd o, 3)) (hc : CondP cd x 0) (ho : 0 ≤ (pc : Int) + o) {pc' : Nat} (hp : ((pc : Int) + o).toNat = pc') (k : KGo p e below K T m pc' Ls st) : KGo p e below K T m pc Ls (.int x :: st) :=
  k.step fun t q => XS.ifYes P.here C.1 rfl rfl (hb C.cdE hd) rfl ((if0 _ _).trans (k_condP hc)) ho hp q
theorem k_ifN {cd : ClassFile.Cond} {x : Int32} {o : Int} (C : KCx tbl nm cod ml ret p meth c Z a0) (P : KPos wd p l e R s m args below meth c Z own n0 h0 ws T h cells slots) (hd : decode cod pc = .ok (.ifCond cd o, 3)) (hc : CondN cd x 0) {pc' : Nat} (hp : pc + 3 = pc') (k : KGo p e below K T m pc' Ls st) : KGo p e below K T m pc Ls (.int x :: st) := by
  subst hp; exact k.step fun t q => XS.ifNo P.here C.1 rfl (hb C.cdE hd) rfl ((if0 _ _).trans (k_condN hc)) q
theorem k_ifB {cd : ClassFile.Cond} {x : Int32} {o : Int} (C : KCx tbl nm cod ml ret p meth c Z a0) (P : KPos wd p l e R s m args below meth c Z own n0 h0 ws T h cells slots) (hd : decode cod pc = .ok (.ifCond cd o, 3)) (ho : 0 ≤ (pc : Int) + o) {pcY pcN : Nat} (hp : ((pc : Int) + o).toNat = pcY) (hp' : pc + 3 = pcN) (kY : CondP cd x 0 → KGo p e below K T m pcY Ls st) (kN : CondN cd x 0 → KGo p e below K T m pcN Ls st) : KGo p e below K T m pc Ls (.int x :: st) :=
  (k_condT x 0).elim (fun q => k_ifY C P hd q ho hp (kY q)) (fun q => k_ifN C P hd q hp' (kN q))
theorem k_icY {cd : ClassFile.Cond} {x y : Int32} {o : Int} (C : KCx tbl nm cod ml ret p meth c Z a0) (P : KPos wd p l e R s m args below meth c Z own n0 h0 ws T h cells slots) (hd : decode cod pc = .ok (.if_icmp cd o, 3)) (hc : CondP cd x y) (ho : 0 ≤ (pc : Int) + o) {pc' : Nat} (hp : ((pc : Int) + o).toNat = pc') (k : KGo p e below K T m pc' Ls st) : KGo p e below K T m pc Ls (.int y :: .int x :: st) :=
  k.step fun t q => XS.icmpYes P.here C.1 rfl rfl (hb C.cdE hd) rfl (k_condP hc) ho hp q
theorem k_icN {cd : ClassFile.Cond} {x y : Int32} {o : Int} (C : KCx tbl nm cod ml ret p meth c Z a0) (P : KPos wd p l e R s m args below meth c Z own n0 h0 ws T h cells slots) (hd : decode cod pc = .ok (.if_icmp cd o, 3)) (hc : CondN cd x y) {pc' : Nat} (hp : pc + 3 = pc') (k : KGo p e below K T m pc' Ls st) : KGo p e below K T m pc Ls (.int y :: .int x :: st) := by
  subst hp; exact k.step fun t q => XS.icmpNo P.here C.1 rfl (hb C.cdE hd) rfl (k_condN hc) q
theorem k_icB {cd : ClassFile.Cond} {x y : Int32} {o : Int} (C : KCx tbl nm cod ml ret p meth c Z a0) (P : KPos wd p l e R s m args below meth c Z own n0 h0 ws T h cells slots) (hd : decode cod pc = .ok (.if_icmp cd o, 3)) (ho : 0 ≤ (pc : Int) + o) {pcY pcN : Nat} (hp : ((pc : Int) + o).toNat = pcY) (hp' : pc + 3 = pcN) (kY : CondP cd x y → KGo p e below K T m pcY Ls st) (kN : CondN cd x y → KGo p e below K T m pcN Ls st) : KGo p e below K T m pc Ls (.int y :: .int x :: st) :=
  (k_condT x y).elim (fun q => k_icY C P hd q ho hp (kY q)) (fun q => k_icN C P hd q hp' (kN q))
theorem k_goto {o : Int} (C : KCx tbl nm cod ml ret p meth c Z a0) (P : KPos wd p l e R s m args below meth c Z own n0 h0 ws T h cells slots) (hd : decode cod pc = .ok (.goto o, 3)) (ho : 0 ≤ (pc : Int) + o) {pc' : Nat} (hp : ((pc : Int) + o).toNat = pc') (k : KGo p e below K T m pc' Ls st) : KGo p e below K T m pc Ls st :=
  k.step fun t q => XS.goto P.here C.1 rfl rfl (hb C.cdE hd) ho hp q
theorem k_nullY {o : Int} (C : KCx tbl nm cod ml ret p meth c Z a0) (P : KPos wd p l e R s m args below meth c Z own n0 h0 ws T h cells slots) (hd : decode cod pc = .ok (.ifnull o, 3)) (ho : 0 ≤ (pc : Int) + o) {pc' : Nat} (hp : ((pc : Int) + o).toNat = pc') (k : KGo p e below K T m pc' Ls st) : KGo p e below K T m pc Ls (.null :: st) :=
  k.step fun t q => XS.ifnullYes P.here C.1 rfl rfl (hb C.cdE hd) rfl ho hp q
theorem k_nullN {o : Int} (C : KCx tbl nm cod ml ret p meth c Z a0) (P : KPos wd p l e R s m args below meth c Z own n0 h0 ws T h cells slots) (hd : decode cod pc = .ok (.ifnull o, 3)) {pc' : Nat} (hp : pc + 3 = pc') (k : KGo p e below K T m pc' Ls st) : KGo p e below K T m pc Ls (.ref a :: st) := by
  subst hp; exact k.step fun t q => XS.ifnullNo P.here C.1 rfl (hb C.cdE hd) rfl q
theorem k_nonnullY {o : Int} (C : KCx tbl nm cod ml ret p meth c Z a0) (P : KPos wd p l e R s m args below meth c Z own n0 h0 ws T h cells slots) (hd : decode cod pc = .ok (.ifnonnull o, 3)) (ho : 0 ≤ (pc : Int) + o) {pc' : Nat} (hp : ((pc : Int) + o).toNat = pc') (k : KGo p e below K T m pc' Ls st) : KGo p e below K T m pc Ls (.ref a :: st) :=
  k.step fun t q => XS.ifnonnullYes P.here C.1 rfl rfl (hb C.cdE hd) rfl ho hp q
theorem k_nonnullN {o : Int} (C : KCx tbl nm cod ml ret p meth c Z a0) (P : KPos wd p l e R s m args below meth c Z own n0 h0 ws T h cells slots) (hd : decode cod pc = .ok (.ifnonnull o, 3)) {pc' : Nat} (hp : pc + 3 = pc') (k : KGo p e below K T m pc' Ls st) : KGo p e below K T m pc Ls (.null :: st) := by
  subst hp; exact k.step fun t q => XS.ifnonnullNo P.here C.1 rfl (hb C.cdE hd) rfl q
theorem k_acB {cd : ClassFile.ACond} {x y : Value} {o : Int} (C : KCx tbl nm cod ml ret p meth c Z a0) (P : KPos wd p l e R s m args below meth c Z own n0 h0 ws T h cells slots) (hd : decode cod pc = .ok (.if_acmp cd o, 3)) (hx : x.isRef = true) (hy : y.isRef = true) (ho : 0 ≤ (pc : Int) + o) {pcY pcN : Nat} (hp : ((pc : Int) + o).toNat = pcY) (hp' : pc + 3 = pcN)
    (kY : XT.acmp cd x y = true → KGo p e below K T m pcY Ls st) (kN : XT.acmp cd x y = false → KGo p e below K T m pcN Ls st) : KGo p e below K T m pc Ls (y :: x :: st) := by
  cases q : XT.acmp cd x y
  · subst hp'; exact (kN q).step fun t r => XT.acmpNo P.here C.1 rfl (hb C.cdE hd) rfl hx hy q r
  · exact (kY q).step fun t r => XT.acmpYes P.here C.1 rfl rfl (hb C.cdE hd) rfl hx hy q ho hp r
/-- a condition laid on the stack as 1 or 0: if.., iconst, k_goto, iconst -/
theorem k_ternIf {cd : ClassFile.Cond} {x : Int32} {o : Int} {i j : Int} {vN vY : Int32} {Pp : Prop} [Decidable Pp] (C : KCx tbl nm cod ml ret p meth c Z a0) (P : KPos wd p l e R s m args below meth c Z own n0 h0 ws T h cells slots)
    (hd : decode cod pc = .ok (.ifCond cd o, 3)) {p1 p2 p3 p4 : Nat} (d1 : decode cod p1 = .ok (.iconst i, 1)) (d2 : decode cod p2 = .ok (.goto 4, 3)) (d3 : decode cod p3 = .ok (.iconst j, 1)) (q1 : pc + 3 = p1) (q2 : p1 + 1 = p2) (q3 : ((pc : Int) + o).toNat = p3) (q0 : 0 ≤ (pc : Int) + o) (q4 : p3 + 1 = p4) (q5 : p2 + 4 = p4)
    (hi : Int32.ofInt i = vN) (hj : Int32.ofInt j = vY) (hY : CondP cd x 0 → Pp) (hN : CondN cd x 0 → ¬ Pp) (k : KGo p e below K T m p4 Ls (.int (if Pp then vY else vN) :: st)) : KGo p e below K T m pc Ls (.int x :: st) := by
  refine k_ifB C P hd q0 q3 q1 (fun q => ?_) (fun q => ?_)
  · rw [if_pos (hY q)] at k
    subst q4 hj; exact k.step fun t r => XS.iconst P.here C.1 rfl (hb C.cdE d3) r
  · rw [if_neg (hN q)] at k
    subst hi q2
    have k2 : KGo p e below K T m (p1 + 1) Ls (.int (Int32.ofInt i) :: st) := k_goto C P d2 (by omega) (by omega) k
    exact k2.step fun t r => XS.iconst P.here C.1 rfl (hb C.cdE d1) r
theorem k_ternIc {cd : ClassFile.Cond} {x y : Int32} {o : Int} {i j : Int} {vN vY : Int32} {Pp : Prop} [Decidable Pp] (C : KCx tbl nm cod ml ret p meth c Z a0) (P : KPos wd p l e R s m args below meth c Z own n0 h0 ws T h cells slots)
    (hd : decode cod pc = .ok (.if_icmp cd o, 3)) {p1 p2 p3 p4 : Nat} (d1 : decode cod p1 = .ok (.iconst i, 1)) (d2 : decode cod p2 = .ok (.goto 4, 3)) (d3 : decode cod p3 = .ok (.iconst j, 1)) (q1 : pc + 3 = p1) (q2 : p1 + 1 = p2) (q3 : ((pc : Int) + o).toNat = p3) (q0 : 0 ≤ (pc : Int) + o) (q4 : p3 + 1 = p4) (q5 : p2 + 4 = p4)
    (hi : Int32.ofInt i = vN) (hj : Int32.ofInt j = vY) (hY : CondP cd x y → Pp) (hN : CondN cd x y → ¬ Pp) (k : KGo p e below K T m p4 Ls (.int (if Pp then vY else vN) :: st)) : KGo p e below K T m pc Ls (.int y :: .int x :: st) := by
  refine k_icB C P hd q0 q3 q1 (fun q => ?_) (fun q => ?_)
  · rw [if_pos (hY q)] at k
    subst q4 hj; exact k.step fun t r => XS.iconst P.here C.1 rfl (hb C.cdE d3) r
  · rw [if_neg (hN q)] at k
    subst hi q2
    have k2 : KGo p e below K T m (p1 + 1) Ls (.int (Int32.ofInt i) :: st) := k_goto C P d2 (by omega) (by omega) k
    exact k2.step fun t r => XS.iconst P.here C.1 rfl (hb C.cdE d1) r
theorem k_iload (C : KCx tbl nm cod ml ret p meth c Z a0) (P : KPos wd p l e R s m args below meth c Z own n0 h0 ws T h cells slots) {k : Nat} {v : Int32} (hd : decode cod pc = .ok (.iload k, 2)) (hl : Ls[k]? = some (.val (.int v))) {pc' : Nat} (hp : pc + 2 = pc') (k' : KGo p e below K T m pc' Ls (.int v :: st)) : KGo p e below K T m pc Ls (st) := by
  subst hp; exact k'.step fun t q => XS.iload P.here C.1 rfl (hb C.cdE hd) hl q
theorem k_iloadN (C : KCx tbl nm cod ml ret p meth c Z a0) (P : KPos wd p l e R s m args below meth c Z own n0 h0 ws T h cells slots) {k : Fin 4} {v : Int32} (hd : decode cod pc = .ok (.iload_n k, 1)) (hl : Ls[k.val]? = some (.val (.int v))) {pc' : Nat} (hp : pc + 1 = pc') (k' : KGo p e below K T m pc' Ls (.int v :: st)) : KGo p e below K T m pc Ls (st) := by
  subst hp; exact k'.step fun t q => XS.iloadN P.here C.1 rfl (hb C.cdE hd) hl q
theorem k_istore (C : KCx tbl nm cod ml ret p meth c Z a0) (P : KPos wd p l e R s m args below meth c Z own n0 h0 ws T h cells slots) {k : Nat} {x : Int32} {l' : Array Slot} (hd : decode cod pc = .ok (.istore k, 2)) (hl : storeLocals Ls k (.int x) = some l') {pc' : Nat} (hp : pc + 2 = pc') (k' : KGo p e below K T m pc' l' (st)) : KGo p e below K T m pc Ls (.int x :: st) := by
  subst hp; exact k'.step fun t q => XS.istore P.here C.1 rfl (hb C.cdE hd) rfl hl q
theorem k_istoreN (C : KCx tbl nm cod ml ret p meth c Z a0) (P : KPos wd p l e R s m args below meth c Z own n0 h0 ws T h cells slots) {k : Fin 4} {x : Int32} {l' : Array Slot} (hd : decode cod pc = .ok (.istore_n k, 1)) (hl : storeLocals Ls k.val (.int x) = some l') {pc' : Nat} (hp : pc + 1 = pc') (k' : KGo p e below K T m pc' l' (st)) : KGo p e below K T m pc Ls (.int x :: st) := by
  subst hp; exact k'.step fun t q => XS.istoreN P.here C.1 rfl (hb C.cdE hd) rfl hl q
theorem k_lload (C : KCx tbl nm cod ml ret p meth c Z a0) (P : KPos wd p l e R s m args below meth c Z own n0 h0 ws T h cells slots) {k : Nat} {v : Int64} (hd : decode cod pc = .ok (.lload k, 2)) (hl : Ls[k]? = some (.val (.long v))) {pc' : Nat} (hp : pc + 2 = pc') (k' : KGo p e below K T m pc' Ls (.long v :: st)) : KGo p e below K T m pc Ls (st) := by
  subst hp; exact k'.step fun t q => XS.lload P.here C.1 rfl (hb C.cdE hd) hl q
theorem k_lloadN (C : KCx tbl nm cod ml ret p meth c Z a0) (P : KPos wd p l e R s m args below meth c Z own n0 h0 ws T h cells slots) {k : Fin 4} {v : Int64} (hd : decode cod pc = .ok (.lload_n k, 1)) (hl : Ls[k.val]? = some (.val (.long v))) {pc' : Nat} (hp : pc + 1 = pc') (k' : KGo p e below K T m pc' Ls (.long v :: st)) : KGo p e below K T m pc Ls (st) := by
  subst hp; exact k'.step fun t q => XS.lloadN P.here C.1 rfl (hb C.cdE hd) hl q
theorem k_lstore (C : KCx tbl nm cod ml ret p meth c Z a0) (P : KPos wd p l e R s m args below meth c Z own n0 h0 ws T h cells slots) {k : Nat} {x : Int64} {l' : Array Slot} (hd : decode cod pc = .ok (.lstore k, 2)) (hl : storeLocals Ls k (.long x) = some l') {pc' : Nat} (hp : pc + 2 = pc') (k' : KGo p e below K T m pc' l' (st)) : KGo p e below K T m pc Ls (.long x :: st) := by
  subst hp; exact k'.step fun t q => XS.lstore P.here C.1 rfl (hb C.cdE hd) rfl hl q
theorem k_lstoreN (C : KCx tbl nm cod ml ret p meth c Z a0) (P : KPos wd p l e R s m args below meth c Z own n0 h0 ws T h cells slots) {k : Fin 4} {x : Int64} {l' : Array Slot} (hd : decode cod pc = .ok (.lstore_n k, 1)) (hl : storeLocals Ls k.val (.long x) = some l') {pc' : Nat} (hp : pc + 1 = pc') (k' : KGo p e below K T m pc' l' (st)) : KGo p e below K T m pc Ls (.long x :: st) := by
  subst hp; exact k'.step fun t q => XS.lstoreN P.here C.1 rfl (hb C.cdE hd) rfl hl q
theorem k_aload (C : KCx tbl nm cod ml ret p meth c Z a0) (P : KPos wd p l e R s m args below meth c Z own n0 h0 ws T h cells slots) {k : Nat} {v : Value} (hd : decode cod pc = .ok (.aload k, 2)) (hl : Ls[k]? = some (.val v)) (hv : v.isRef = true) {pc' : Nat} (hp : pc + 2 = pc') (k' : KGo p e below K T m pc' Ls (v :: st)) : KGo p e below K T m pc Ls (st) := by
  subst hp; exact k'.step fun t q => XS.aload P.here C.1 rfl (hb C.cdE hd) hl hv q
theorem k_aloadN (C : KCx tbl nm cod ml ret p meth c Z a0) (P : KPos wd p l e R s m args below meth c Z own n0 h0 ws T h cells slots) {k : Fin 4} {v : Value} (hd : decode cod pc = .ok (.aload_n k, 1)) (hl : Ls[k.val]? = some (.val v)) (hv : v.isRef = true) {pc' : Nat} (hp : pc + 1 = pc') (k' : KGo p e below K T m pc' Ls (v :: st)) : KGo p e below K T m pc Ls (st) := by
  subst hp; exact k'.step fun t q => XS.aloadN P.here C.1 rfl (hb C.cdE hd) hl hv q
theorem k_astore (C : KCx tbl nm cod ml ret p meth c Z a0) (P : KPos wd p l e R s m args below meth c Z own n0 h0 ws T h cells slots) {k : Nat} {x : Value} {l' : Array Slot} (hd : decode cod pc = .ok (.astore k, 2)) (hv : x.isRef = true) (hl : storeLocals Ls k x = some l') {pc' : Nat} (hp : pc + 2 = pc') (k' : KGo p e below K T m pc' l' (st)) : KGo p e below K T m pc Ls (x :: st) := by
  subst hp; exact k'.step fun t q => XS.astore P.here C.1 rfl (hb C.cdE hd) rfl hv hl q
theorem k_astoreN (C : KCx tbl nm cod ml ret p meth c Z a0) (P : KPos wd p l e R s m args below meth c Z own n0 h0 ws T h cells slots) {k : Fin 4} {x : Value} {l' : Array Slot} (hd : decode cod pc = .ok (.astore_n k, 1)) (hv : x.isRef = true) (hl : storeLocals Ls k.val x = some l') {pc' : Nat} (hp : pc + 1 = pc') (k' : KGo p e below K T m pc' l' (st)) : KGo p e below K T m pc Ls (x :: st) := by
  subst hp; exact k'.step fun t q => XS.astoreN P.here C.1 rfl (hb C.cdE hd) rfl hv hl q
theorem k_iconst (C : KCx tbl nm cod ml ret p meth c Z a0) (P : KPos wd p l e R s m args below meth c Z own n0 h0 ws T h cells slots) {i : Int} {z : Int32} (hd : decode cod pc = .ok (.iconst i, 1)) (hz : Int32.ofInt i = z) {pc' : Nat} (hp : pc + 1 = pc') (k' : KGo p e below K T m pc' Ls (.int z :: st)) : KGo p e below K T m pc Ls (st) := by
  subst hp; exact k'.step fun t q => XS.iconst P.here C.1 rfl (hb C.cdE hd) (hz ▸ q)
theorem k_bipush (C : KCx tbl nm cod ml ret p meth c Z a0) (P : KPos wd p l e R s m args below meth c Z own n0 h0 ws T h cells slots) {i : Int} {z : Int32} (hd : decode cod pc = .ok (.bipush i, 2)) (hz : (Int8.ofInt i).toInt32 = z) {pc' : Nat} (hp : pc + 2 = pc') (k' : KGo p e below K T m pc' Ls (.int z :: st)) : KGo p e below K T m pc Ls (st) := by
  subst hp; exact k'.step fun t q => XS.bipush P.here C.1 rfl (hb C.cdE hd) (hz ▸ q)
theorem k_sipush (C : KCx tbl nm cod ml ret p meth c Z a0) (P : KPos wd p l e R s m args below meth c Z own n0 h0 ws T h cells slots) {i : Int} {z : Int32} (hd : decode cod pc = .ok (.sipush i, 3)) (hz : (Int16.ofInt i).toInt32 = z) {pc' : Nat} (hp : pc + 3 = pc') (k' : KGo p e below K T m pc' Ls (.int z :: st)) : KGo p e below K T m pc Ls (st) := by
  subst hp; exact k'.step fun t q => XS.sipush P.here C.1 rfl (hb C.cdE hd) (hz ▸ q)
theorem k_lconst (C : KCx tbl nm cod ml ret p meth c Z a0) (P : KPos wd p l e R s m args below meth c Z own n0 h0 ws T h cells slots) {i : Fin 2} {z : Int64} (hd : decode cod pc = .ok (.lconst i, 1)) (hz : Int64.ofNat i = z) {pc' : Nat} (hp : pc + 1 = pc') (k' : KGo p e below K T m pc' Ls (.long z :: st)) : KGo p e below K T m pc Ls (st) := by
  subst hp; exact k'.step fun t q => XS.lconst P.here C.1 rfl (hb C.cdE hd) (hz ▸ q)
theorem k_aconstNull (C : KCx tbl nm cod ml ret p meth c Z a0) (P : KPos wd p l e R s m args below meth c Z own n0 h0 ws T h cells slots)  (hd : decode cod pc = .ok (.aconst_null, 1))  {pc' : Nat} (hp : pc + 1 = pc') (k' : KGo p e below K T m pc' Ls (.null :: st)) : KGo p e below K T m pc Ls (st) := by
  subst hp; exact k'.step fun t q => XS.aconstNull P.here C.1 rfl (hb C.cdE hd) q
theorem k_iadd (C : KCx tbl nm cod ml ret p meth c Z a0) (P : KPos wd p l e R s m args below meth c Z own n0 h0 ws T h cells slots) {x y : Int32} (hd : decode cod pc = .ok (.iadd, 1))  {pc' : Nat} (hp : pc + 1 = pc') (k' : KGo p e below K T m pc' Ls (.int (x + y) :: st)) : KGo p e below K T m pc Ls (.int y :: .int x :: st) := by
  subst hp; exact k'.step fun t q => XS.iadd P.here C.1 rfl (hb C.cdE hd) rfl q
theorem k_isub (C : KCx tbl nm cod ml ret p meth c Z a0) (P : KPos wd p l e R s m args below meth c Z own n0 h0 ws T h cells slots) {x y : Int32} (hd : decode cod pc = .ok (.isub, 1))  {pc' : Nat} (hp : pc + 1 = pc') (k' : KGo p e below K T m pc' Ls (.int (x - y) :: st)) : KGo p e below K T m pc Ls (.int y :: .int x :: st) := by
  subst hp; exact k'.step fun t q => XS.isub P.here C.1 rfl (hb C.cdE hd) rfl q
theorem k_imul (C : KCx tbl nm cod ml ret p meth c Z a0) (P : KPos wd p l e R s m args below meth c Z own n0 h0 ws T h cells slots) {x y : Int32} (hd : decode cod pc = .ok (.imul, 1))  {pc' : Nat} (hp : pc + 1 = pc') (k' : KGo p e below K T m pc' Ls (.int (x * y) :: st)) : KGo p e below K T m pc Ls (.int y :: .int x :: st) := by
  subst hp; exact k'.step fun t q => XS.imul P.here C.1 rfl (hb C.cdE hd) rfl q
theorem k_iand (C : KCx tbl nm cod ml ret p meth c Z a0) (P : KPos wd p l e R s m args below meth c Z own n0 h0 ws T h cells slots) {x y : Int32} (hd : decode cod pc = .ok (.iand, 1))  {pc' : Nat} (hp : pc + 1 = pc') (k' : KGo p e below K T m pc' Ls (.int (x &&& y) :: st)) : KGo p e below K T m pc Ls (.int y :: .int x :: st) := by
  subst hp; exact k'.step fun t q => XS.iand P.here C.1 rfl (hb C.cdE hd) rfl q
theorem k_ior (C : KCx tbl nm cod ml ret p meth c Z a0) (P : KPos wd p l e R s m args below meth c Z own n0 h0 ws T h cells slots) {x y : Int32} (hd : decode cod pc = .ok (.ior, 1))  {pc' : Nat} (hp : pc + 1 = pc') (k' : KGo p e below K T m pc' Ls (.int (x ||| y) :: st)) : KGo p e below K T m pc Ls (.int y :: .int x :: st) := by
  subst hp; exact k'.step fun t q => XS.ior P.here C.1 rfl (hb C.cdE hd) rfl q
theorem k_ixor (C : KCx tbl nm cod ml ret p meth c Z a0) (P : KPos wd p l e R s m args below meth c Z own n0 h0 ws T h cells slots) {x y : Int32} (hd : decode cod pc = .ok (.ixor, 1))  {pc' : Nat} (hp : pc + 1 = pc') (k' : KGo p e below K T m pc' Ls (.int (x ^^^ y) :: st)) : KGo p e below K T m pc Ls (.int y :: .int x :: st) := by
  subst hp; exact k'.step fun t q => XS.ixor P.here C.1 rfl (hb C.cdE hd) rfl q
theorem k_ishl (C : KCx tbl nm cod ml ret p meth c Z a0) (P : KPos wd p l e R s m args below meth c Z own n0 h0 ws T h cells slots) {x y : Int32} (hd : decode cod pc = .ok (.ishl, 1))  {pc' : Nat} (hp : pc + 1 = pc') (k' : KGo p e below K T m pc' Ls (.int (x <<< (y &&& 31)) :: st)) : KGo p e below K T m pc Ls (.int y :: .int x :: st) := by
  subst hp; exact k'.step fun t q => XS.ishl P.here C.1 rfl (hb C.cdE hd) rfl q
theorem k_ishr (C : KCx tbl nm cod ml ret p meth c Z a0) (P : KPos wd p l e R s m args below meth c Z own n0 h0 ws T h cells slots) {x y : Int32} (hd : decode cod pc = .ok (.ishr, 1))  {pc' : Nat} (hp : pc + 1 = pc') (k' : KGo p e below K T m pc' Ls (.int (x >>> (y &&& 31)) :: st)) : KGo p e below K T m pc Ls (.int y :: .int x :: st) := by
  subst hp; exact k'.step fun t q => XS.ishr P.here C.1 rfl (hb C.cdE hd) rfl q
theorem k_iushr (C : KCx tbl nm cod ml ret p meth c Z a0) (P : KPos wd p l e R s m args below meth c Z own n0 h0 ws T h cells slots) {x y : Int32} (hd : decode cod pc = .ok (.iushr, 1))  {pc' : Nat} (hp : pc + 1 = pc') (k' : KGo p e below K T m pc' Ls (.int (k_ushr x y) :: st)) : KGo p e below K T m pc Ls (.int y :: .int x :: st) := by
  subst hp; exact k'.step fun t q => XS.iushr P.here C.1 rfl (hb C.cdE hd) rfl q
theorem k_ladd (C : KCx tbl nm cod ml ret p meth c Z a0) (P : KPos wd p l e R s m args below meth c Z own n0 h0 ws T h cells slots) {x y : Int64} (hd : decode cod pc = .ok (.ladd, 1))  {pc' : Nat} (hp : pc + 1 = pc') (k' : KGo p e below K T m pc' Ls (.long (x + y) :: st)) : KGo p e below K T m pc Ls (.long y :: .long x :: st) := by
  subst hp; exact k'.step fun t q => XS.ladd P.here C.1 rfl (hb C.cdE hd) rfl q
theorem k_lsub (C : KCx tbl nm cod ml ret p meth c Z a0) (P : KPos wd p l e R s m args below meth c Z own n0 h0 ws T h cells slots) {x y : Int64} (hd : decode cod pc = .ok (.lsub, 1))  {pc' : Nat} (hp : pc + 1 = pc') (k' : KGo p e below K T m pc' Ls (.long (x - y) :: st)) : KGo p e below K T m pc Ls (.long y :: .long x :: st) := by
  subst hp; exact k'.step fun t q => XS.lsub P.here C.1 rfl (hb C.cdE hd) rfl q
theorem k_lmul (C : KCx tbl nm cod ml ret p meth c Z a0) (P : KPos wd p l e R s m args below meth c Z own n0 h0 ws T h cells slots) {x y : Int64} (hd : decode cod pc = .ok (.lmul, 1))  {pc' : Nat} (hp : pc + 1 = pc') (k' : KGo p e below K T m pc' Ls (.long (x * y) :: st)) : KGo p e below K T m pc Ls (.long y :: .long x :: st) := by
  subst hp; exact k'.step fun t q => XS.lmul P.here C.1 rfl (hb C.cdE hd) rfl q
theorem k_land (C : KCx tbl nm cod ml ret p meth c Z a0) (P : KPos wd p l e R s m args below meth c Z own n0 h0 ws T h cells slots) {x y : Int64} (hd : decode cod pc = .ok (.land, 1))  {pc' : Nat} (hp : pc + 1 = pc') (k' : KGo p e below K T m pc' Ls (.long (x &&& y) :: st)) : KGo p e below K T m pc Ls (.long y :: .long x :: st) := by
  subst hp; exact k'.step fun t q => XS.land P.here C.1 rfl (hb C.cdE hd) rfl q
theorem k_lor (C : KCx tbl nm cod ml ret p meth c Z a0) (P : KPos wd p l e R s m args below meth c Z own n0 h0 ws T h cells slots) {x y : Int64} (hd : decode cod pc = .ok (.lor, 1))  {pc' : Nat} (hp : pc + 1 = pc') (k' : KGo p e below K T m pc' Ls (.long (x ||| y) :: st)) : KGo p e below K T m pc Ls (.long y :: .long x :: st) := by
  subst hp; exact k'.step fun t q => XS.lor P.here C.1 rfl (hb C.cdE hd) rfl q
theorem k_lxor (C : KCx tbl nm cod ml ret p meth c Z a0) (P : KPos wd p l e R s m args below meth c Z own n0 h0 ws T h cells slots) {x y : Int64} (hd : decode cod pc = .ok (.lxor, 1))  {pc' : Nat} (hp : pc + 1 = pc') (k' : KGo p e below K T m pc' Ls (.long (x ^^^ y) :: st)) : KGo p e below K T m pc Ls (.long y :: .long x :: st) := by
  subst hp; exact k'.step fun t q => XS.lxor P.here C.1 rfl (hb C.cdE hd) rfl q
theorem k_lshl (C : KCx tbl nm cod ml ret p meth c Z a0) (P : KPos wd p l e R s m args below meth c Z own n0 h0 ws T h cells slots) {x : Int64} {y : Int32} (hd : decode cod pc = .ok (.lshl, 1))  {pc' : Nat} (hp : pc + 1 = pc') (k' : KGo p e below K T m pc' Ls (.long (x <<< (y &&& 63).toInt64) :: st)) : KGo p e below K T m pc Ls (.int y :: .long x :: st) := by
  subst hp; exact k'.step fun t q => XS.lshl P.here C.1 rfl (hb C.cdE hd) rfl q
theorem k_lshr (C : KCx tbl nm cod ml ret p meth c Z a0) (P : KPos wd p l e R s m args below meth c Z own n0 h0 ws T h cells slots) {x : Int64} {y : Int32} (hd : decode cod pc = .ok (.lshr, 1))  {pc' : Nat} (hp : pc + 1 = pc') (k' : KGo p e below K T m pc' Ls (.long (x >>> (y &&& 63).toInt64) :: st)) : KGo p e below K T m pc Ls (.int y :: .long x :: st) := by
  subst hp; exact k'.step fun t q => XS.lshr P.here C.1 rfl (hb C.cdE hd) rfl q
theorem k_lushr (C : KCx tbl nm cod ml ret p meth c Z a0) (P : KPos wd p l e R s m args below meth c Z own n0 h0 ws T h cells slots) {x : Int64} {y : Int32} (hd : decode cod pc = .ok (.lushr, 1))  {pc' : Nat} (hp : pc + 1 = pc') (k' : KGo p e below K T m pc' Ls (.long (k_ushrL x y) :: st)) : KGo p e below K T m pc Ls (.int y :: .long x :: st) := by
  subst hp; exact k'.step fun t q => XS.lushr P.here C.1 rfl (hb C.cdE hd) rfl q
theorem k_lcmp (C : KCx tbl nm cod ml ret p meth c Z a0) (P : KPos wd p l e R s m args below meth c Z own n0 h0 ws T h cells slots) {x y : Int64} (hd : decode cod pc = .ok (.lcmp, 1))  {pc' : Nat} (hp : pc + 1 = pc') (k' : KGo p e below K T m pc' Ls (.int (k_cmpL x y) :: st)) : KGo p e below K T m pc Ls (.long y :: .long x :: st) := by
  subst hp; exact k'.step fun t q => XS.lcmp P.here C.1 rfl (hb C.cdE hd) rfl q
theorem k_i2l (C : KCx tbl nm cod ml ret p meth c Z a0) (P : KPos wd p l e R s m args below meth c Z own n0 h0 ws T h cells slots) {x : Int32} (hd : decode cod pc = .ok (.i2l, 1))  {pc' : Nat} (hp : pc + 1 = pc') (k' : KGo p e below K T m pc' Ls (.long (x.toInt64) :: st)) : KGo p e below K T m pc Ls (.int x :: st) := by
  subst hp; exact k'.step fun t q => XS.i2l P.here C.1 rfl (hb C.cdE hd) rfl q
theorem k_l2i (C : KCx tbl nm cod ml ret p meth c Z a0) (P : KPos wd p l e R s m args below meth c Z own n0 h0 ws T h cells slots) {x : Int64} (hd : decode cod pc = .ok (.l2i, 1))  {pc' : Nat} (hp : pc + 1 = pc') (k' : KGo p e below K T m pc' Ls (.int (x.toInt32) :: st)) : KGo p e below K T m pc Ls (.long x :: st) := by
  subst hp; exact k'.step fun t q => XS.l2i P.here C.1 rfl (hb C.cdE hd) rfl q
theorem k_i2b (C : KCx tbl nm cod ml ret p meth c Z a0) (P : KPos wd p l e R s m args below meth c Z own n0 h0 ws T h cells slots) {x : Int32} (hd : decode cod pc = .ok (.i2b, 1))  {pc' : Nat} (hp : pc + 1 = pc') (k' : KGo p e below K T m pc' Ls (.int (x.toInt8.toInt32) :: st)) : KGo p e below K T m pc Ls (.int x :: st) := by
  subst hp; exact k'.step fun t q => XS.i2b P.here C.1 rfl (hb C.cdE hd) rfl q
theorem k_i2c (C : KCx tbl nm cod ml ret p meth c Z a0) (P : KPos wd p l e R s m args below meth c Z own n0 h0 ws T h cells slots) {x : Int32} (hd : decode cod pc = .ok (.i2c, 1))  {pc' : Nat} (hp : pc + 1 = pc') (k' : KGo p e below K T m pc' Ls (.int (x.toUInt32.toUInt16.toUInt32.toInt32) :: st)) : KGo p e below K T m pc Ls (.int x :: st) := by
  subst hp; exact k'.step fun t q => XS.i2c P.here C.1 rfl (hb C.cdE hd) rfl q
theorem k_i2s (C : KCx tbl nm cod ml ret p meth c Z a0) (P : KPos wd p l e R s m args below meth c Z own n0 h0 ws T h cells slots) {x : Int32} (hd : decode cod pc = .ok (.i2s, 1))  {pc' : Nat} (hp : pc + 1 = pc') (k' : KGo p e below K T m pc' Ls (.int (x.toInt16.toInt32) :: st)) : KGo p e below K T m pc Ls (.int x :: st) := by
  subst hp; exact k'.step fun t q => XS.i2s P.here C.1 rfl (hb C.cdE hd) rfl q
theorem k_ineg (C : KCx tbl nm cod ml ret p meth c Z a0) (P : KPos wd p l e R s m args below meth c Z own n0 h0 ws T h cells slots) {x : Int32} (hd : decode cod pc = .ok (.ineg, 1))  {pc' : Nat} (hp : pc + 1 = pc') (k' : KGo p e below K T m pc' Ls (.int (-x) :: st)) : KGo p e below K T m pc Ls (.int x :: st) := by
  subst hp; exact k'.step fun t q => XS.ineg P.here C.1 rfl (hb C.cdE hd) rfl q
theorem k_lneg (C : KCx tbl nm cod ml ret p meth c Z a0) (P : KPos wd p l e R s m args below meth c Z own n0 h0 ws T h cells slots) {x : Int64} (hd : decode cod pc = .ok (.lneg, 1))  {pc' : Nat} (hp : pc + 1 = pc') (k' : KGo p e below K T m pc' Ls (.long (-x) :: st)) : KGo p e below K T m pc Ls (.long x :: st) := by
  subst hp; exact k'.step fun t q => XS.lneg P.here C.1 rfl (hb C.cdE hd) rfl q
theorem k_irem (C : KCx tbl nm cod ml ret p meth c Z a0) (P : KPos wd p l e R s m args below meth c Z own n0 h0 ws T h cells slots) {x y : Int32} (hd : decode cod pc = .ok (.irem, 1)) (hy : y ≠ 0) {pc' : Nat} (hp : pc + 1 = pc') (k' : KGo p e below K T m pc' Ls (.int (x % y) :: st)) : KGo p e below K T m pc Ls (.int y :: .int x :: st) := by
  subst hp; exact k'.step fun t q => XS.irem P.here C.1 rfl (hb C.cdE hd) rfl hy (by rw [irem_eq_mod]; exact q)
theorem k_idiv (C : KCx tbl nm cod ml ret p meth c Z a0) (P : KPos wd p l e R s m args below meth c Z own n0 h0 ws T h cells slots) {x y : Int32} (hd : decode cod pc = .ok (.idiv, 1)) (hy : y ≠ 0) {pc' : Nat} (hp : pc + 1 = pc') (k' : KGo p e below K T m pc' Ls (.int (x / y) :: st)) : KGo p e below K T m pc Ls (.int y :: .int x :: st) := by
  subst hp; exact k'.step fun t q => XS.idiv P.here C.1 rfl (hb C.cdE hd) rfl hy q
theorem k_iinc (C : KCx tbl nm cod ml ret p meth c Z a0) (P : KPos wd p l e R s m args below meth c Z own n0 h0 ws T h cells slots) {k : Nat} {cst : Int} {x z : Int32} {l' : Array Slot} (hd : decode cod pc = .ok (.iinc k cst, 3)) (hl : Ls[k]? = some (.val (.int x))) (hz : x + Int32.ofInt cst = z) (hl' : storeLocals Ls k (.int z) = some l') {pc' : Nat} (hp : pc + 3 = pc') (k' : KGo p e below K T m pc' l' (st)) : KGo p e below K T m pc Ls (st) := by
  subst hp; exact k'.step fun t q => XS.iinc P.here C.1 rfl (hb C.cdE hd) hl (hz ▸ hl') q
theorem k_dup (C : KCx tbl nm cod ml ret p meth c Z a0) (P : KPos wd p l e R s m args below meth c Z own n0 h0 ws T h cells slots) {x : Value} (hd : decode cod pc = .ok (.dup, 1)) (hc : x.category = 1) {pc' : Nat} (hp : pc + 1 = pc') (k' : KGo p e below K T m pc' Ls (x :: x :: st)) : KGo p e below K T m pc Ls (x :: st) := by
  subst hp; exact k'.step fun t q => XS.dup P.here C.1 rfl (hb C.cdE hd) rfl hc q
theorem k_pop (C : KCx tbl nm cod ml ret p meth c Z a0) (P : KPos wd p l e R s m args below meth c Z own n0 h0 ws T h cells slots) {x : Value} (hd : decode cod pc = .ok (.pop, 1)) (hc : x.category = 1) {pc' : Nat} (hp : pc + 1 = pc') (k' : KGo p e below K T m pc' Ls (st)) : KGo p e below K T m pc Ls (x :: st) := by
  subst hp; exact k'.step fun t q => XS.pop P.here C.1 rfl (hb C.cdE hd) rfl hc q
theorem k_dupX1 (C : KCx tbl nm cod ml ret p meth c Z a0) (P : KPos wd p l e R s m args below meth c Z own n0 h0 ws T h cells slots) {x y : Value} (hd : decode cod pc = .ok (.dup_x1, 1)) (hc : x.category = 1) (hc' : y.category = 1) {pc' : Nat} (hp : pc + 1 = pc') (k' : KGo p e below K T m pc' Ls (x :: y :: x :: st)) : KGo p e below K T m pc Ls (x :: y :: st) := by
  subst hp; exact k'.step fun t q => XS.dupX1 P.here C.1 rfl (hb C.cdE hd) rfl hc hc' q
theorem k_dup2 (C : KCx tbl nm cod ml ret p meth c Z a0) (P : KPos wd p l e R s m args below meth c Z own n0 h0 ws T h cells slots) {x y : Value} (hd : decode cod pc = .ok (.dup2, 1)) (hc : x.category = 1) (hc' : y.category = 1) {pc' : Nat} (hp : pc + 1 = pc') (k' : KGo p e below K T m pc' Ls (x :: y :: x :: y :: st)) : KGo p e below K T m pc Ls (x :: y :: st) := by
  subst hp; exact k'.step fun t q => XT.dup2 P.here C.1 rfl (hb C.cdE hd) rfl hc hc' q
theorem k_dload (C : KCx tbl nm cod ml ret p meth c Z a0) (P : KPos wd p l e R s m args below meth c Z own n0 h0 ws T h cells slots) {k : Nat} {v : UInt64} (hd : decode cod pc = .ok (.dload k, 2)) (hl : Ls[k]? = some (.val (.double v))) {pc' : Nat} (hp : pc + 2 = pc') (k' : KGo p e below K T m pc' Ls (.double v :: st)) : KGo p e below K T m pc Ls (st) := by
  subst hp; exact k'.step fun t q => XS.dload P.here C.1 rfl (hb C.cdE hd) hl q
theorem k_dloadN (C : KCx tbl nm cod ml ret p meth c Z a0) (P : KPos wd p l e R s m args below meth c Z own n0 h0 ws T h cells slots) {k : Fin 4} {v : UInt64} (hd : decode cod pc = .ok (.dload_n k, 1)) (hl : Ls[k.val]? = some (.val (.double v))) {pc' : Nat} (hp : pc + 1 = pc') (k' : KGo p e below K T m pc' Ls (.double v :: st)) : KGo p e below K T m pc Ls (st) := by
  subst hp; exact k'.step fun t q => XS.dloadN P.here C.1 rfl (hb C.cdE hd) hl q
theorem k_dstore (C : KCx tbl nm cod ml ret p meth c Z a0) (P : KPos wd p l e R s m args below meth c Z own n0 h0 ws T h cells slots) {k : Nat} {x : UInt64} {l' : Array Slot} (hd : decode cod pc = .ok (.dstore k, 2)) (hl : storeLocals Ls k (.double x) = some l') {pc' : Nat} (hp : pc + 2 = pc') (k' : KGo p e below K T m pc' l' (st)) : KGo p e below K T m pc Ls (.double x :: st) := by
  subst hp; exact k'.step fun t q => XS.dstore P.here C.1 rfl (hb C.cdE hd) rfl hl q
theorem k_dstoreN (C : KCx tbl nm cod ml ret p meth c Z a0) (P : KPos wd p l e R s m args below meth c Z own n0 h0 ws T h cells slots) {k : Fin 4} {x : UInt64} {l' : Array Slot} (hd : decode cod pc = .ok (.dstore_n k, 1)) (hl : storeLocals Ls k.val (.double x) = some l') {pc' : Nat} (hp : pc + 1 = pc') (k' : KGo p e below K T m pc' l' (st)) : KGo p e below K T m pc Ls (.double x :: st) := by
  subst hp; exact k'.step fun t q => XS.dstoreN P.here C.1 rfl (hb C.cdE hd) rfl hl q
theorem k_dconst0 (C : KCx tbl nm cod ml ret p meth c Z a0) (P : KPos wd p l e R s m args below meth c Z own n0 h0 ws T h cells slots) {z : UInt64} (hd : decode cod pc = .ok (.dconst 0, 1)) (hz : FP.dconst0 = z) {pc' : Nat} (hp : pc + 1 = pc') (k' : KGo p e below K T m pc' Ls (.double z :: st)) : KGo p e below K T m pc Ls (st) := by
  subst hp; exact k'.step fun t q => XS.dconst0 P.here C.1 rfl (hb C.cdE hd) hz q
theorem k_dconst1 (C : KCx tbl nm cod ml ret p meth c Z a0) (P : KPos wd p l e R s m args below meth c Z own n0 h0 ws T h cells slots) {z : UInt64} (hd : decode cod pc = .ok (.dconst 1, 1)) (hz : FP.dconst1 = z) {pc' : Nat} (hp : pc + 1 = pc') (k' : KGo p e below K T m pc' Ls (.double z :: st)) : KGo p e below K T m pc Ls (st) := by
  subst hp; exact k'.step fun t q => XS.dconst1 P.here C.1 rfl (hb C.cdE hd) hz q
theorem k_i2d (C : KCx tbl nm cod ml ret p meth c Z a0) (P : KPos wd p l e R s m args below meth c Z own n0 h0 ws T h cells slots) {x : Int32} (hd : decode cod pc = .ok (.i2d, 1))  {pc' : Nat} (hp : pc + 1 = pc') (k' : KGo p e below K T m pc' Ls (.double (FP.i2d x) :: st)) : KGo p e below K T m pc Ls (.int x :: st) := by
  subst hp; exact k'.step fun t q => XS.i2dS P.here C.1 rfl (hb C.cdE hd) rfl rfl q
theorem k_l2d (C : KCx tbl nm cod ml ret p meth c Z a0) (P : KPos wd p l e R s m args below meth c Z own n0 h0 ws T h cells slots) {x : Int64} (hd : decode cod pc = .ok (.l2d, 1))  {pc' : Nat} (hp : pc + 1 = pc') (k' : KGo p e below K T m pc' Ls (.double (FP.l2d x) :: st)) : KGo p e below K T m pc Ls (.long x :: st) := by
  subst hp; exact k'.step fun t q => XS.l2dS P.here C.1 rfl (hb C.cdE hd) rfl rfl q
theorem k_dneg (C : KCx tbl nm cod ml ret p meth c Z a0) (P : KPos wd p l e R s m args below meth c Z own n0 h0 ws T h cells slots) {x : UInt64} (hd : decode cod pc = .ok (.dneg, 1))  {pc' : Nat} (hp : pc + 1 = pc') (k' : KGo p e below K T m pc' Ls (.double (FP.dneg x) :: st)) : KGo p e below K T m pc Ls (.double x :: st) := by
  subst hp; exact k'.step fun t q => XS.dnegS P.here C.1 rfl (hb C.cdE hd) rfl rfl q
theorem k_dcmp (C : KCx tbl nm cod ml ret p meth c Z a0) (P : KPos wd p l e R s m args below meth c Z own n0 h0 ws T h cells slots) {o : CmpOp} {x y : UInt64} {z : Int32} (hd : decode cod pc = .ok (.dcmp o, 1)) (hz : cmpValue (FP.dcmp x y) o = z) {pc' : Nat} (hp : pc + 1 = pc') (k' : KGo p e below K T m pc' Ls (.int z :: st)) : KGo p e below K T m pc Ls (.double y :: .double x :: st) := by
  subst hp; exact k'.step fun t q => XS.dcmpS P.here C.1 rfl (hb C.cdE hd) rfl hz q
theorem k_dadd (C : KCx tbl nm cod ml ret p meth c Z a0) (P : KPos wd p l e R s m args below meth c Z own n0 h0 ws T h cells slots) {x y z : UInt64} (hd : decode cod pc = .ok (.dadd, 1)) (hn : Jvm.Free.Fl.NoNaN64 (FP.dadd x y)) (hz : FP.dadd x y = z) {pc' : Nat} (hp : pc + 1 = pc') (k' : KGo p e below K T m pc' Ls (.double z :: st)) : KGo p e below K T m pc Ls (.double y :: .double x :: st) := by
  subst hp; exact k'.step fun t q => XS.daddS P.here C.1 rfl (hb C.cdE hd) rfl hn hz q
theorem k_dsub (C : KCx tbl nm cod ml ret p meth c Z a0) (P : KPos wd p l e R s m args below meth c Z own n0 h0 ws T h cells slots) {x y z : UInt64} (hd : decode cod pc = .ok (.dsub, 1)) (hn : Jvm.Free.Fl.NoNaN64 (FP.dsub x y)) (hz : FP.dsub x y = z) {pc' : Nat} (hp : pc + 1 = pc') (k' : KGo p e below K T m pc' Ls (.double z :: st)) : KGo p e below K T m pc Ls (.double y :: .double x :: st) := by
  subst hp; exact k'.step fun t q => XS.dsubS P.here C.1 rfl (hb C.cdE hd) rfl hn hz q
theorem k_dmul (C : KCx tbl nm cod ml ret p meth c Z a0) (P : KPos wd p l e R s m args below meth c Z own n0 h0 ws T h cells slots) {x y z : UInt64} (hd : decode cod pc = .ok (.dmul, 1)) (hn : Jvm.Free.Fl.NoNaN64 (FP.dmul x y)) (hz : FP.dmul x y = z) {pc' : Nat} (hp : pc + 1 = pc') (k' : KGo p e below K T m pc' Ls (.double z :: st)) : KGo p e below K T m pc Ls (.double y :: .double x :: st) := by
  subst hp; exact k'.step fun t q => XS.dmulS P.here C.1 rfl (hb C.cdE hd) rfl hn hz q
theorem k_ddiv (C : KCx tbl nm cod ml ret p meth c Z a0) (P : KPos wd p l e R s m args below meth c Z own n0 h0 ws T h cells slots) {x y z : UInt64} (hd : decode cod pc = .ok (.ddiv, 1)) (hn : Jvm.Free.Fl.NoNaN64 (FP.ddiv x y)) (hz : FP.ddiv x y = z) {pc' : Nat} (hp : pc + 1 = pc') (k' : KGo p e below K T m pc' Ls (.double z :: st)) : KGo p e below K T m pc Ls (.double y :: .double x :: st) := by
  subst hp; exact k'.step fun t q => XS.ddivS P.here C.1 rfl (hb C.cdE hd) rfl hn hz q
/-! ### objects and arrays -/
def KOb (Z : State) (h : Heap) (a : Addr) (Cn : String) (lay : List (String × String × String)) (vs : List Value) : Prop :=
  Exa Z h a Cn ∧ lay.length = vs.length ∧ ∀ (i : Nat) (O n d : String) (v : Value), lay[i]? = some (O, n, d) → vs[i]? = some v → Fld Z h a O n d v
def KLay (Z : State) (a0 : Array Value) (Cn : String) (lay : List (String × String × String)) : Prop :=
  (∀ x ∈ lay, Laid Z a0 Cn x.1 x.2.1 x.2.2 ∧ (parseFieldDescriptor x.2.2).isSome = true) ∧ (lay.map (·.2.1)).Nodup
def KVA (Z : State) (h : Heap) (a : Addr) (k : ClassId) (ty : FieldType) (N : Nat) (f : Nat → Value) : Prop :=
  ∃ cl : Cell, Arr Z h a cl ty ∧ cl.cls = k ∧ cl.slots.size = N ∧ N < 2 ^ 31 ∧ ∀ j, j < N → cl.slots[j]? = some (f j)
section Facts
variable {Cn O n d : String} {lay : List (String × String × String)} {vs : List Value} {v : Value} {sl : Nat} {k : ClassId} {ty : FieldType} {N : Nat} {f : Nat → Value} {ws' : List Addr}
theorem KOb.exa (F : KOb Z h a Cn lay vs) : Exa Z h a Cn := F.1
theorem KOb.lt (F : KOb Z h a Cn lay vs) : a < h.size := F.1.lt
theorem KOb.fld (F : KOb Z h a Cn lay vs) (i : Nat) (q : lay[i]? = some (O, n, d)) (r : vs[i]? = some v) : Fld Z h a O n d v := F.2.2 i O n d v q r
theorem KOb.ext (F : KOb Z h a Cn lay vs) (E : Ext h h') : KOb Z h' a Cn lay vs := ⟨F.1.ext E, F.2.1, fun i O n d v q r => (F.2.2 i O n d v q r).ext E⟩
theorem KOb.keep (F : KOb Z h a Cn lay vs) (E : Keep h h' ws') (q : a ∉ ws') : KOb Z h' a Cn lay vs := ⟨F.1.keep E, F.2.1, fun i O n d v u r => (F.2.2 i O n d v u r).keep E q⟩
theorem KOb.other (F : KOb Z h a Cn lay vs) (W : Wr h h' b sl v) (q : a ≠ b) : KOb Z h' a Cn lay vs := ⟨F.1.wr W, F.2.1, fun i O n d v u r => (F.2.2 i O n d v u r).other W (Or.inl q)⟩
theorem KOb.put (F : KOb Z h a Cn lay vs) (L : KLay Z a0 Cn lay) (i : Nat) (q : lay[i]? = some (O, n, d)) (W : Wr h h' a (Jvm.RoadKit.slotOf Z O n d) v) {vs' : List Value} (hv : vs.set i v = vs') : KOb Z h' a Cn lay vs' := by
  subst hv
  refine ⟨F.1.wr W, by rw [List.length_set]; exact F.2.1, fun j O' n' d' v' u r => ?_⟩
  by_cases e : i = j
  · subst e
    cases q.symm.trans u
    have hi : i < vs.length := by rw [← F.2.1]; exact (List.getElem?_eq_some_iff.mp q).1
    rw [List.getElem?_set_self hi] at r
    cases r
    exact (F.2.2 i O n d _ q (List.getElem?_eq_getElem hi)).same W
  · rw [List.getElem?_set_ne e] at r
    obtain ⟨l1, t1⟩ := L.1 _ (List.mem_of_getElem? u)
    obtain ⟨l2, t2⟩ := L.1 _ (List.mem_of_getElem? q)
    obtain ⟨t, ht⟩ := Option.isSome_iff_exists.mp t1
    obtain ⟨t', ht'⟩ := Option.isSome_iff_exists.mp t2
    refine (F.2.2 j O' n' d' v' u r).other W (Or.inr (slot_ne l1 l2 (fun en => ?_) ht ht'))
    have m1 : (lay.map (·.2.1))[j]? = some n' := by rw [List.getElem?_map, u]; rfl
    have m2 : (lay.map (·.2.1))[i]? = some n' := by rw [List.getElem?_map, q]; exact congrArg some en.symm
    exact e (((List.getElem?_inj (List.getElem?_eq_some_iff.mp m2).1 L.2).mp (m2.trans m1.symm)))
theorem KOb.new (E : Exa Z h a Cn) (D : ∀ {O nm d : String} {ty : FieldType}, Laid Z a0 Cn O nm d → parseFieldDescriptor d = some ty → Fld Z h a O nm d (defaultValue ty)) (L : KLay Z a0 Cn lay) (hv : (lay.map fun x => (parseFieldDescriptor x.2.2).map defaultValue) = vs.map some) : KOb Z h a Cn lay vs := by
  have hl : lay.length = vs.length := by have := congrArg List.length hv; simpa using this
  refine ⟨E, hl, fun i O n d v q r => ?_⟩
  obtain ⟨l1, t1⟩ := L.1 _ (List.mem_of_getElem? q)
  obtain ⟨t, ht⟩ := Option.isSome_iff_exists.mp t1
  have e1 : (lay.map fun x => (parseFieldDescriptor x.2.2).map defaultValue)[i]? = some (some (defaultValue t)) := by rw [List.getElem?_map, q]; show some ((parseFieldDescriptor d).map defaultValue) = _; rw [show parseFieldDescriptor d = some t from ht]; rfl
  rw [hv, List.getElem?_map, r] at e1
  cases e1
  exact D l1 ht
theorem KOb.one (E : Exa Z h a Cn) (F : Fld Z h a O n d v) : KOb Z h a Cn [(O, n, d)] [v] := ⟨E, rfl, fun i O' n' d' v' q r => by
  match i, q, r with
  | 0, q, r => cases q; cases r; exact F⟩
theorem KOb.two {O2 n2 d2 : String} {v2 : Value} (E : Exa Z h a Cn) (F : Fld Z h a O n d v) (F2 : Fld Z h a O2 n2 d2 v2) : KOb Z h a Cn [(O, n, d), (O2, n2, d2)] [v, v2] := ⟨E, rfl, fun i O' n' d' v' q r => by
  match i, q, r with
  | 0, q, r => cases q; cases r; exact F
  | 1, q, r => cases q; cases r; exact F2⟩
theorem KVA.lt (F : KVA Z h a k ty N f) : a < h.size := by obtain ⟨c, A, -⟩ := F; exact A.lt
theorem KVA.ext (F : KVA Z h a k ty N f) (E : Ext h h') : KVA Z h' a k ty N f := by obtain ⟨c, A, r⟩ := F; exact ⟨c, A.ext E, r⟩
theorem KVA.keep (F : KVA Z h a k ty N f) (E : Keep h h' ws') (q : a ∉ ws') : KVA Z h' a k ty N f := by obtain ⟨c, A, r⟩ := F; exact ⟨c, ⟨E.2.1 a c A.1 q, A.2⟩, r⟩
theorem KVA.other (F : KVA Z h a k ty N f) (W : Wr h h' b sl v) (q : a ≠ b) : KVA Z h' a k ty N f := by obtain ⟨c, A, r⟩ := F; exact ⟨c, A.other W q, r⟩
theorem KVA.congr (F : KVA Z h a k ty N f) {g : Nat → Value} (q : ∀ j, j < N → f j = g j) : KVA Z h a k ty N g := by obtain ⟨c, A, r1, r2, r3, r4⟩ := F; exact ⟨c, A, r1, r2, r3, fun j hj => by rw [← q j hj]; exact r4 j hj⟩
theorem KVA.set (F : KVA Z h a k ty N f) (W : Wr h h' a sl v) {g : Nat → Value} (q : ∀ j, j < N → (if j = sl then v else f j) = g j) : KVA Z h' a k ty N g := by
  obtain ⟨c, A, r1, r2, r3, r4⟩ := F
  refine ⟨c.setSlot sl v, A.same W, r1, by rw [sz_set]; exact r2, r3, fun j hj => ?_⟩
  rw [← q j hj]
  by_cases e : j = sl
  · subst e; rw [if_pos rfl]; simp [Cell.setSlot, r2, hj]
  · rw [if_neg e]; show (c.slots.setIfInBounds sl v)[j]? = _; rw [Array.getElem?_setIfInBounds_ne (Ne.symm e)]; exact r4 j hj
theorem KVA.new {z : Int32} (A : Arr Z h a (newA k ty z) ty) (q : z.toInt = (N : Int)) : KVA Z h a k ty N (fun _ => defaultValue ty) := by
  have e : z.toNatClampNeg = N := by simp only [Int32.toNatClampNeg]; omega
  have := Int32.toInt_lt z
  exact ⟨_, A, rfl, (sz_new _ _ _).trans e, by omega, fun j hj => by simp [newA, e, hj]⟩
theorem KVA.ne_ob {kk : Nat} (F : KVA Z h a k ty N f) (G : Exa Z h b Cn) (wi : (Cond.instantiable Cn kk).before a0 Z = true) : a ≠ b := by obtain ⟨c, A, -⟩ := F; exact (ne_arr G wi A).symm
theorem KVA.start {cl : Cell} (A : Arr Z h a cl ty) (hs : cl.slots.size = N) (hN : N < 2 ^ 31) (H : ∀ j, j < N → cl.slots[j]? = some (f j)) : KVA Z h a cl.cls ty N f := ⟨cl, A, rfl, hs, hN, H⟩
theorem k_cat_ref {v : Value} (hv : v.isRef = true) : v.category = 1 := by rcases ref_cases hv with rfl | ⟨_, rfl⟩ <;> rfl
theorem k_fits_ref {v : Value} (ht : ty.isReference = true) (hv : v.isRef = true) : fits ty v = true := by rcases ref_cases hv with rfl | ⟨_, rfl⟩ <;> cases ty <;> first | rfl | (cases ht; done)
theorem k_ext_of_keep (E : Keep h h' []) : Ext h h' := ⟨E.1, fun x c q => E.2.1 x c q nin0⟩
theorem k_idx {j : Int32} {J : Nat} (hj : j.toInt = (J : Int)) {S : Nat} (hJ : J < S) : ¬ (j < 0 ∨ S ≤ j.toNatClampNeg) ∧ j.toNatClampNeg = J := by
  have e : j.toNatClampNeg = J := by simp only [Int32.toNatClampNeg]; omega
  refine ⟨?_, e⟩
  rw [e, Int32.lt_iff_toInt_lt]
  have : (0 : Int32).toInt = 0 := rfl
  omega
end Facts
/-! ### steps on the heap -/
theorem k_getf {R0 O n d Cn : String} {index : Nat} {lay : List (String × String × String)} {vs : List Value} {v : Value} (C : KCx tbl nm cod ml ret p meth c Z a0) (P : KPos wd p l e R s m args below meth c Z own n0 h0 ws T h cells slots) (w : (Jvm.Cond.fieldLink own index R0 n d).before a0 Z = true) (via : Via Z R0 O n d) (F : KOb Z h a Cn lay vs) (i : Nat) (q : lay[i]? = some (O, n, d)) (r : vs[i]? = some v)
    (hd : decode cod pc = .ok (.getfield index, 3)) {pc' : Nat} (hp : pc + 3 = pc') (k' : ∀ T', KPos wd p l e R s m args below meth c Z own n0 h0 ws T' h cells slots → KGo p e below K T' m pc' Ls (v :: st)) : KGo p e below K T m pc Ls (.ref a :: st) := by
  subst hp
  obtain ⟨s', L, X, B, hZ, hown, eT, r1⟩ := P
  obtain ⟨T', X', e', stp⟩ := getF X C.1 hZ hown (host := "") (Or.inl w) via eT (F.fld i q r) (g := mkF m pc Ls (.ref a :: st)) rfl rfl (hb C.cdE hd)
  exact (k' T' ⟨s', L, X', B, hZ, hown, e', r1⟩).step stp
theorem k_putf {R0 O n d Cn : String} {index kk : Nat} {lay : List (String × String × String)} {vs : List Value} {v v' : Value} {ty : FieldType} (C : KCx tbl nm cod ml ret p meth c Z a0) (P : KPos wd p l e R s m args below meth c Z own n0 h0 ws T h cells slots) (w : (Jvm.Cond.fieldLink own index R0 n d).before a0 Z = true) (via : Via Z R0 O n d) (F : KOb Z h a Cn lay vs) (i : Nat) (q : lay[i]? = some (O, n, d))
    (L : (Jvm.Cond.lays Cn O n d).before a0 Z = true ∨ ((Jvm.Cond.laysFinal Cn O n d).before a0 Z = true ∧ own = O ∧ nm = "<init>")) (wi : (Jvm.Cond.instantiable Cn kk).before a0 Z = true) (hty : parseFieldDescriptor d = some ty) (hn : narrow ty v = v') (hf : fits ty v' = true)
    (hd : decode cod pc = .ok (.putfield index, 3)) (ha : n0 ≤ a) (hk : a ∈ ws ∨ h0.size ≤ a) {pc' : Nat} (hp : pc + 3 = pc') (k' : ∀ T' h', KPos wd p l e R s m args below meth c Z own n0 h0 ws T' h' cells slots → Wr h h' a (Jvm.RoadKit.slotOf Z O n d) v' → KGo p e below K T' m pc' Ls st) : KGo p e below K T m pc Ls (v :: .ref a :: st) := by
  subst hp
  obtain ⟨s', Lo, X, B, hZ, hown, eT, r1, r2, r3⟩ := P
  have hi : i < vs.length := by rw [← F.2.1]; exact (List.getElem?_eq_some_iff.mp q).1
  obtain ⟨T', h', X', e', W, stp⟩ := putFN X C.1 hZ hown w via eT (F.fld i q (List.getElem?_eq_getElem hi)) F.1 (L.imp id fun z => ⟨z.1, z.2.1, C.nmE.trans z.2.2⟩) wi hty hn hf (g := mkF m pc Ls (v :: .ref a :: st)) rfl rfl (hb C.cdE hd)
  exact (k' T' h' ⟨s', _, X', B.mono (Nat.le_of_eq W.size.symm), hZ, hown, e', W.size ▸ r1, Fr.snoc X' r2 ha, r3.wr W hk⟩ W).step stp
theorem k_gets {R0 O n d : String} {index : Nat} {v : Value} (C : KCx tbl nm cod ml ret p meth c Z a0) (P : KPos wd p l e R s m args below meth c Z own n0 h0 ws T h cells slots) (w : (Jvm.Cond.fieldLink own index R0 n d).before a0 Z = true) (via : Via Z R0 O n d) (F : Sta Z h O n d v) (hd : decode cod pc = .ok (.getstatic index, 3)) {pc' : Nat} (hp : pc + 3 = pc')
    (k' : ∀ T', KPos wd p l e R s m args below meth c Z own n0 h0 ws T' h cells slots → KGo p e below K T' m pc' Ls (v :: st)) : KGo p e below K T m pc Ls st := by
  subst hp
  obtain ⟨s', L, X, B, hZ, hown, eT, r1⟩ := P
  obtain ⟨T', X', e', stp⟩ := getS2 X C.1 hZ hown (host := "") (Or.inl w) via eT F (g := mkF m pc Ls st) rfl (hb C.cdE hd)
  exact (k' T' ⟨s', L, X', B, hZ, hown, e', r1⟩).step stp
theorem k_newo {Cn : String} {index n : Nat} (C : KCx tbl nm cod ml ret p meth c Z a0) (P : KPos wd p l e R s m args below meth c Z own n0 h0 ws T h cells slots) (w : (Jvm.Cond.classLink own index Cn).before a0 Z = true) (wi : (Jvm.Cond.instantiable Cn n).before a0 Z = true) (wz : (Jvm.Cond.initialized Cn).before a0 Z = true) (hd : decode cod pc = .ok (.new index, 3))
    {cells' slots' : Nat} (hc : cells + 1 = cells') (hs : slots + n = slots') (hc' : cells' ≤ R.cells) (hs' : slots' ≤ R.slots) {pc' : Nat} (hp : pc + 3 = pc')
    (k' : ∀ T' h' a, KPos wd p l e R s m args below meth c Z own n0 h0 ws T' h' cells' slots' → h.size = a → n0 ≤ a → h0.size ≤ a → Ext h h' → Exa Z h' a Cn → (∀ {O nm d : String} {ty : FieldType}, Laid Z a0 Cn O nm d → parseFieldDescriptor d = some ty → Fld Z h' a O nm d (defaultValue ty)) → KGo p e below K T' m pc' Ls (.ref a :: st)) : KGo p e below K T m pc Ls st := by
  subst hp hc hs
  obtain ⟨s', Lo, X, B, hZ, hown, eT, r1, r2, r3⟩ := P
  obtain ⟨T', h', X', e', E, A, D, -, stp⟩ := newO X C.1 hZ hown w wi wz eT (g := mkF m pc Ls st) rfl (hb C.cdE hd) hc' hs'
  exact (k' T' h' _ ⟨s', _, X', B.mono E.1, hZ, hown, e', Nat.le_trans r1 E.1, r2, r3.ext E⟩ rfl r1 r3.1 E A D).step stp
theorem k_newp {aty : ArrayType} {z : Int32} {N cap : Nat} (C : KCx tbl nm cod ml ret p meth c Z a0) (P : KPos wd p l e R s m args below meth c Z own n0 h0 ws T h cells slots) (w : (Jvm.Cond.arrayClass (newarray.typeOf aty)).before a0 Z = true) (hd : decode cod pc = .ok (.newarray aty, 2)) (hN : z.toInt = (N : Int)) (hcap : N ≤ cap) (hb8 : cap * 8 ≤ 536870912)
    {cells' slots' : Nat} (hc : cells + 1 = cells') (hs : slots + cap = slots') (hc' : cells' ≤ R.cells) (hs' : slots' ≤ R.slots) {pc' : Nat} (hp : pc + 2 = pc')
    (k' : ∀ T' h' a k, KPos wd p l e R s m args below meth c Z own n0 h0 ws T' h' cells' slots' → h.size = a → n0 ≤ a → h0.size ≤ a → Ext h h' → KVA Z h' a k (newarray.typeOf aty) N (fun _ => defaultValue (newarray.typeOf aty)) → KGo p e below K T' m pc' Ls (.ref a :: st)) : KGo p e below K T m pc Ls (.int z :: st) := by
  subst hp hc hs
  obtain ⟨s', Lo, X, B, hZ, hown, eT, r1, r2, r3⟩ := P
  have e0 : ¬ z < 0 := by rw [Int32.lt_iff_toInt_lt]; have : (0 : Int32).toInt = 0 := rfl; omega
  have e1 : z.toNatClampNeg ≤ cap := by simp only [Int32.toNatClampNeg]; omega
  obtain ⟨T', h', kA, X', e', E, A, stp⟩ := newP X C.1 hZ w eT (g := mkF m pc Ls (.int z :: st)) rfl (hb C.cdE hd) rfl e0 e1 hb8 hc' hs'
  exact (k' T' h' _ kA ⟨s', _, X', B.mono E.1, hZ, hown, e', Nat.le_trans r1 E.1, r2, r3.ext E⟩ rfl r1 r3.1 E (KVA.new A hN)).step stp
theorem k_newr {Cn : String} {index : Nat} {z : Int32} {N cap : Nat} (C : KCx tbl nm cod ml ret p meth c Z a0) (P : KPos wd p l e R s m args below meth c Z own n0 h0 ws T h cells slots) (w : (Jvm.Cond.classLink own index Cn).before a0 Z = true) (w2 : (Jvm.Cond.arrayOver (.object Cn)).before a0 Z = true) (hd : decode cod pc = .ok (.anewarray index, 3)) (hN : z.toInt = (N : Int)) (hcap : N ≤ cap) (hb8 : cap * 8 ≤ 536870912)
    {cells' slots' : Nat} (hc : cells + 1 = cells') (hs : slots + cap = slots') (hc' : cells' ≤ R.cells) (hs' : slots' ≤ R.slots) {pc' : Nat} (hp : pc + 3 = pc')
    (k' : ∀ T' h' a k, KPos wd p l e R s m args below meth c Z own n0 h0 ws T' h' cells' slots' → h.size = a → n0 ≤ a → h0.size ≤ a → Ext h h' → KVA Z h' a k (.object Cn) N (fun _ => .null) → Ovr Z k Cn → KGo p e below K T' m pc' Ls (.ref a :: st)) : KGo p e below K T m pc Ls (.int z :: st) := by
  subst hp hc hs
  obtain ⟨s', Lo, X, B, hZ, hown, eT, r1, r2, r3⟩ := P
  have e0 : ¬ z < 0 := by rw [Int32.lt_iff_toInt_lt]; have : (0 : Int32).toInt = 0 := rfl; omega
  have e1 : z.toNatClampNeg ≤ cap := by simp only [Int32.toNatClampNeg]; omega
  obtain ⟨T', h', kA, X', e', E, A, O, stp⟩ := newR X C.1 hZ hown w w2 eT (g := mkF m pc Ls (.int z :: st)) rfl (hb C.cdE hd) rfl e0 e1 hb8 hc' hs'
  exact (k' T' h' _ kA ⟨s', _, X', B.mono E.1, hZ, hown, e', Nat.le_trans r1 E.1, r2, r3.ext E⟩ rfl r1 r3.1 E (KVA.new A hN) O).step stp
theorem k_newra {Cn ad : String} {ty : FieldType} {index : Nat} {z : Int32} {N cap : Nat} (C : KCx tbl nm cod ml ret p meth c Z a0) (P : KPos wd p l e R s m args below meth c Z own n0 h0 ws T h cells slots) (hC : (FieldType.array ty).toString = Cn) (had : "[" ++ Cn = ad) (w : (Jvm.Cond.classLink own index Cn).before a0 Z = true) (w2 : (Jvm.Cond.arrayOver (.array ty)).before a0 Z = true) (hd : decode cod pc = .ok (.anewarray index, 3)) (hN : z.toInt = (N : Int)) (hcap : N ≤ cap) (hb8 : cap * 8 ≤ 536870912)
    {cells' slots' : Nat} (hc : cells + 1 = cells') (hs : slots + cap = slots') (hc' : cells' ≤ R.cells) (hs' : slots' ≤ R.slots) {pc' : Nat} (hp : pc + 3 = pc')
    (k' : ∀ T' h' a k, KPos wd p l e R s m args below meth c Z own n0 h0 ws T' h' cells' slots' → h.size = a → n0 ≤ a → h0.size ≤ a → Ext h h' → KVA Z h' a k (.array ty) N (fun _ => .null) → Exa Z h' a ad → OvrA Z k ty Cn → KGo p e below K T' m pc' Ls (.ref a :: st)) : KGo p e below K T m pc Ls (.int z :: st) := by
  subst hp hc hs
  obtain ⟨s', Lo, X, B, hZ, hown, eT, r1, r2, r3⟩ := P
  have e0 : ¬ z < 0 := by rw [Int32.lt_iff_toInt_lt]; have : (0 : Int32).toInt = 0 := rfl; omega
  have e1 : z.toNatClampNeg ≤ cap := by simp only [Int32.toNatClampNeg]; omega
  obtain ⟨T', h', kA, X', e', E, A, Ex, O, stp⟩ := newRA X C.1 hZ hown hC w w2 eT (g := mkF m pc Ls (.int z :: st)) rfl (hb C.cdE hd) rfl e0 e1 hb8 hc' hs' had
  exact (k' T' h' _ kA ⟨s', _, X', B.mono E.1, hZ, hown, e', Nat.le_trans r1 E.1, r2, r3.ext E⟩ rfl r1 r3.1 E (KVA.new A hN) Ex O).step stp
theorem k_arrlen {k : ClassId} {ty : FieldType} {N : Nat} {f : Nat → Value} {z : Int32} (C : KCx tbl nm cod ml ret p meth c Z a0) (P : KPos wd p l e R s m args below meth c Z own n0 h0 ws T h cells slots) (V : KVA Z h a k ty N f) (hd : decode cod pc = .ok (.arraylength, 1)) (hz : z.toInt = (N : Int)) {pc' : Nat} (hp : pc + 1 = pc') (k' : KGo p e below K T m pc' Ls (.int z :: st)) : KGo p e below K T m pc Ls (.ref a :: st) := by
  subst hp
  obtain ⟨s', L, X, B, hZ, hown, eT, r1⟩ := P
  obtain ⟨cl, A, -, S, hN, -⟩ := V
  have e : cl.slots.size.toInt32 = z := by rw [S]; exact Int32.toInt_inj.mp (by rw [len_toInt hN, hz])
  subst e
  exact k'.step fun t q => X.arraylength C.1 (by rw [eT]; exact A.1) (State.isArrayOf_alike hZ.alike A.2.1) (g := mkF m pc Ls (.ref a :: st)) rfl rfl (hb C.cdE hd) t q
theorem k_iaload {k : ClassId} {N J : Nat} {f : Nat → Value} {j : Int32} {v : Value} (C : KCx tbl nm cod ml ret p meth c Z a0) (P : KPos wd p l e R s m args below meth c Z own n0 h0 ws T h cells slots) (V : KVA Z h a k .int N f) (hd : decode cod pc = .ok (.iaload, 1)) (hj : j.toInt = (J : Int)) (hJ : J < N) (hv : f J = v) {pc' : Nat} (hp : pc + 1 = pc') (k' : KGo p e below K T m pc' Ls (v :: st)) : KGo p e below K T m pc Ls (.int j :: .ref a :: st) := by
  subst hp hv
  obtain ⟨s', L, X, B, hZ, hown, eT, r1⟩ := P
  obtain ⟨cl, A, -, S, hN, H⟩ := V
  obtain ⟨q1, q2⟩ := k_idx hj (S.symm ▸ hJ)
  exact k'.step fun t q => X.iaload C.1 (by rw [eT]; exact A.1) (State.isArrayOf_alike hZ.alike A.2.1) A.2.2 q1 (by rw [q2]; exact H J hJ) (g := mkF m pc Ls (.int j :: .ref a :: st)) rfl rfl (hb C.cdE hd) t q
theorem k_laload {k : ClassId} {N J : Nat} {f : Nat → Value} {j : Int32} {v : Value} (C : KCx tbl nm cod ml ret p meth c Z a0) (P : KPos wd p l e R s m args below meth c Z own n0 h0 ws T h cells slots) (V : KVA Z h a k .long N f) (hd : decode cod pc = .ok (.laload, 1)) (hj : j.toInt = (J : Int)) (hJ : J < N) (hv : f J = v) {pc' : Nat} (hp : pc + 1 = pc') (k' : KGo p e below K T m pc' Ls (v :: st)) : KGo p e below K T m pc Ls (.int j :: .ref a :: st) := by
  subst hp hv
  obtain ⟨s', L, X, B, hZ, hown, eT, r1⟩ := P
  obtain ⟨cl, A, -, S, hN, H⟩ := V
  obtain ⟨q1, q2⟩ := k_idx hj (S.symm ▸ hJ)
  exact k'.step fun t q => X.laload C.1 (by rw [eT]; exact A.1) (State.isArrayOf_alike hZ.alike A.2.1) A.2.2 q1 (by rw [q2]; exact H J hJ) (g := mkF m pc Ls (.int j :: .ref a :: st)) rfl rfl (hb C.cdE hd) t q
theorem k_caload {k : ClassId} {N J : Nat} {f : Nat → Value} {j : Int32} {v : Value} (C : KCx tbl nm cod ml ret p meth c Z a0) (P : KPos wd p l e R s m args below meth c Z own n0 h0 ws T h cells slots) (V : KVA Z h a k .char N f) (hd : decode cod pc = .ok (.caload, 1)) (hj : j.toInt = (J : Int)) (hJ : J < N) (hv : f J = v) {pc' : Nat} (hp : pc + 1 = pc') (k' : KGo p e below K T m pc' Ls (v :: st)) : KGo p e below K T m pc Ls (.int j :: .ref a :: st) := by
  subst hp hv
  obtain ⟨s', L, X, B, hZ, hown, eT, r1⟩ := P
  obtain ⟨cl, A, -, S, hN, H⟩ := V
  obtain ⟨q1, q2⟩ := k_idx hj (S.symm ▸ hJ)
  exact k'.step fun t q => X.caload C.1 (by rw [eT]; exact A.1) (State.isArrayOf_alike hZ.alike A.2.1) A.2.2 q1 (by rw [q2]; exact H J hJ) (g := mkF m pc Ls (.int j :: .ref a :: st)) rfl rfl (hb C.cdE hd) t q
theorem k_baload {k : ClassId} {N J : Nat} {f : Nat → Value} {j : Int32} {v : Value} (C : KCx tbl nm cod ml ret p meth c Z a0) (P : KPos wd p l e R s m args below meth c Z own n0 h0 ws T h cells slots) (V : KVA Z h a k .byte N f) (hd : decode cod pc = .ok (.baload, 1)) (hj : j.toInt = (J : Int)) (hJ : J < N) (hv : f J = v) {pc' : Nat} (hp : pc + 1 = pc') (k' : KGo p e below K T m pc' Ls (v :: st)) : KGo p e below K T m pc Ls (.int j :: .ref a :: st) := by
  subst hp hv
  obtain ⟨s', L, X, B, hZ, hown, eT, r1⟩ := P
  obtain ⟨cl, A, -, S, hN, H⟩ := V
  obtain ⟨q1, q2⟩ := k_idx hj (S.symm ▸ hJ)
  exact k'.step fun t q => X.baloadBytes C.1 (by rw [eT]; exact A.1) (State.isArrayOf_alike hZ.alike A.2.1) A.2.2 q1 (by rw [q2]; exact H J hJ) (g := mkF m pc Ls (.int j :: .ref a :: st)) rfl rfl (hb C.cdE hd) t q
theorem k_daload {k : ClassId} {N J : Nat} {f : Nat → Value} {j : Int32} {v : Value} (C : KCx tbl nm cod ml ret p meth c Z a0) (P : KPos wd p l e R s m args below meth c Z own n0 h0 ws T h cells slots) (V : KVA Z h a k .double N f) (hd : decode cod pc = .ok (.daload, 1)) (hj : j.toInt = (J : Int)) (hJ : J < N) (hv : f J = v) {pc' : Nat} (hp : pc + 1 = pc') (k' : KGo p e below K T m pc' Ls (v :: st)) : KGo p e below K T m pc Ls (.int j :: .ref a :: st) := by
  subst hp hv
  obtain ⟨s', L, X, B, hZ, hown, eT, r1⟩ := P
  obtain ⟨cl, A, -, S, hN, H⟩ := V
  obtain ⟨q1, q2⟩ := k_idx hj (S.symm ▸ hJ)
  exact k'.step fun t q => X.daload C.1 (by rw [eT]; exact A.1) (State.isArrayOf_alike hZ.alike A.2.1) A.2.2 q1 (by rw [q2]; exact H J hJ) (g := mkF m pc Ls (.int j :: .ref a :: st)) rfl rfl (hb C.cdE hd) t q
theorem k_aaload {k : ClassId} {ty : FieldType} {N J : Nat} {f : Nat → Value} {j : Int32} {v : Value} (C : KCx tbl nm cod ml ret p meth c Z a0) (P : KPos wd p l e R s m args below meth c Z own n0 h0 ws T h cells slots) (V : KVA Z h a k ty N f) (hty : ty.isReference = true) (hd : decode cod pc = .ok (.aaload, 1)) (hj : j.toInt = (J : Int)) (hJ : J < N) (hv : f J = v) {pc' : Nat} (hp : pc + 1 = pc') (k' : KGo p e below K T m pc' Ls (v :: st)) : KGo p e below K T m pc Ls (.int j :: .ref a :: st) := by
  subst hp hv
  obtain ⟨s', L, X, B, hZ, hown, eT, r1⟩ := P
  obtain ⟨cl, A, -, S, hN, H⟩ := V
  obtain ⟨q1, q2⟩ := k_idx hj (S.symm ▸ hJ)
  exact k'.step fun t q => X.aaload C.1 (by rw [eT]; exact A.1) (State.isArrayOf_alike hZ.alike A.2.1) hty A.2.2 q1 (by rw [q2]; exact H J hJ) (g := mkF m pc Ls (.int j :: .ref a :: st)) rfl rfl (hb C.cdE hd) t q
theorem k_iastore {k : ClassId} {N J : Nat} {f g' : Nat → Value} {j : Int32} {x : Int32} (C : KCx tbl nm cod ml ret p meth c Z a0) (P : KPos wd p l e R s m args below meth c Z own n0 h0 ws T h cells slots) (V : KVA Z h a k .int N f) (hd : decode cod pc = .ok (.iastore, 1)) (hj : j.toInt = (J : Int)) (hJ : J < N) (hg' : ∀ i, i < N → (if i = J then (.int x : Value) else f i) = g' i) (ha : n0 ≤ a) (hk : a ∈ ws ∨ h0.size ≤ a) {pc' : Nat} (hp : pc + 1 = pc') (k' : ∀ T' h', KPos wd p l e R s m args below meth c Z own n0 h0 ws T' h' cells slots → Wr h h' a J (.int x) → KVA Z h' a k .int N g' → KGo p e below K T' m pc' Ls st) : KGo p e below K T m pc Ls (.int x :: .int j :: .ref a :: st) := by
  subst hp
  obtain ⟨s', Lo, X, B, hZ, hown, eT, r1, r2, r3⟩ := P
  have V0 := V
  obtain ⟨cl, A, -, S, hN, H⟩ := V
  obtain ⟨q1, q2⟩ := k_idx hj (S.symm ▸ hJ)
  obtain ⟨T', h', X', e', W, stp⟩ := stI X C.1 hZ eT A q1 (g := mkF m pc Ls (.int x :: .int j :: .ref a :: st)) rfl rfl (hb C.cdE hd)
  have W' := W
  rw [q2] at W'
  exact (k' T' h' ⟨s', _, X', B.mono (Nat.le_of_eq W.size.symm), hZ, hown, e', W.size ▸ r1, Fr.snoc X' r2 ha, r3.wr W hk⟩ W' (V0.set W' hg')).step stp
theorem k_lastore {k : ClassId} {N J : Nat} {f g' : Nat → Value} {j : Int32} {x : Int64} (C : KCx tbl nm cod ml ret p meth c Z a0) (P : KPos wd p l e R s m args below meth c Z own n0 h0 ws T h cells slots) (V : KVA Z h a k .long N f) (hd : decode cod pc = .ok (.lastore, 1)) (hj : j.toInt = (J : Int)) (hJ : J < N) (hg' : ∀ i, i < N → (if i = J then (.long x : Value) else f i) = g' i) (ha : n0 ≤ a) (hk : a ∈ ws ∨ h0.size ≤ a) {pc' : Nat} (hp : pc + 1 = pc') (k' : ∀ T' h', KPos wd p l e R s m args below meth c Z own n0 h0 ws T' h' cells slots → Wr h h' a J (.long x) → KVA Z h' a k .long N g' → KGo p e below K T' m pc' Ls st) : KGo p e below K T m pc Ls (.long x :: .int j :: .ref a :: st) := by
  subst hp
  obtain ⟨s', Lo, X, B, hZ, hown, eT, r1, r2, r3⟩ := P
  have V0 := V
  obtain ⟨cl, A, -, S, hN, H⟩ := V
  obtain ⟨q1, q2⟩ := k_idx hj (S.symm ▸ hJ)
  obtain ⟨T', h', X', e', W, stp⟩ := stJ X C.1 hZ eT A q1 (g := mkF m pc Ls (.long x :: .int j :: .ref a :: st)) rfl rfl (hb C.cdE hd)
  have W' := W
  rw [q2] at W'
  exact (k' T' h' ⟨s', _, X', B.mono (Nat.le_of_eq W.size.symm), hZ, hown, e', W.size ▸ r1, Fr.snoc X' r2 ha, r3.wr W hk⟩ W' (V0.set W' hg')).step stp
theorem k_castore {k : ClassId} {N J : Nat} {f g' : Nat → Value} {j : Int32} {x : Int32} (C : KCx tbl nm cod ml ret p meth c Z a0) (P : KPos wd p l e R s m args below meth c Z own n0 h0 ws T h cells slots) (V : KVA Z h a k .char N f) (hd : decode cod pc = .ok (.castore, 1)) (hj : j.toInt = (J : Int)) (hJ : J < N) (hg' : ∀ i, i < N → (if i = J then (.int (nar .char x) : Value) else f i) = g' i) (ha : n0 ≤ a) (hk : a ∈ ws ∨ h0.size ≤ a) {pc' : Nat} (hp : pc + 1 = pc') (k' : ∀ T' h', KPos wd p l e R s m args below meth c Z own n0 h0 ws T' h' cells slots → Wr h h' a J (.int (nar .char x)) → KVA Z h' a k .char N g' → KGo p e below K T' m pc' Ls st) : KGo p e below K T m pc Ls (.int x :: .int j :: .ref a :: st) := by
  subst hp
  obtain ⟨s', Lo, X, B, hZ, hown, eT, r1, r2, r3⟩ := P
  have V0 := V
  obtain ⟨cl, A, -, S, hN, H⟩ := V
  obtain ⟨q1, q2⟩ := k_idx hj (S.symm ▸ hJ)
  obtain ⟨T', h', X', e', W, stp⟩ := stC X C.1 hZ eT A q1 (g := mkF m pc Ls (.int x :: .int j :: .ref a :: st)) rfl rfl (hb C.cdE hd)
  have W' := W
  rw [q2] at W'
  exact (k' T' h' ⟨s', _, X', B.mono (Nat.le_of_eq W.size.symm), hZ, hown, e', W.size ▸ r1, Fr.snoc X' r2 ha, r3.wr W hk⟩ W' (V0.set W' hg')).step stp
theorem k_bastore {k : ClassId} {N J : Nat} {f g' : Nat → Value} {j : Int32} {x : Int32} (C : KCx tbl nm cod ml ret p meth c Z a0) (P : KPos wd p l e R s m args below meth c Z own n0 h0 ws T h cells slots) (V : KVA Z h a k .byte N f) (hd : decode cod pc = .ok (.bastore, 1)) (hj : j.toInt = (J : Int)) (hJ : J < N) (hg' : ∀ i, i < N → (if i = J then (.int (nar .byte x) : Value) else f i) = g' i) (ha : n0 ≤ a) (hk : a ∈ ws ∨ h0.size ≤ a) {pc' : Nat} (hp : pc + 1 = pc') (k' : ∀ T' h', KPos wd p l e R s m args below meth c Z own n0 h0 ws T' h' cells slots → Wr h h' a J (.int (nar .byte x)) → KVA Z h' a k .byte N g' → KGo p e below K T' m pc' Ls st) : KGo p e below K T m pc Ls (.int x :: .int j :: .ref a :: st) := by
  subst hp
  obtain ⟨s', Lo, X, B, hZ, hown, eT, r1, r2, r3⟩ := P
  have V0 := V
  obtain ⟨cl, A, -, S, hN, H⟩ := V
  obtain ⟨q1, q2⟩ := k_idx hj (S.symm ▸ hJ)
  obtain ⟨T', h', X', e', W, stp⟩ := stB X C.1 hZ eT A q1 (g := mkF m pc Ls (.int x :: .int j :: .ref a :: st)) rfl rfl (hb C.cdE hd)
  have W' := W
  rw [q2] at W'
  exact (k' T' h' ⟨s', _, X', B.mono (Nat.le_of_eq W.size.symm), hZ, hown, e', W.size ▸ r1, Fr.snoc X' r2 ha, r3.wr W hk⟩ W' (V0.set W' hg')).step stp
theorem k_dastore {k : ClassId} {N J : Nat} {f g' : Nat → Value} {j : Int32} {x : UInt64} (C : KCx tbl nm cod ml ret p meth c Z a0) (P : KPos wd p l e R s m args below meth c Z own n0 h0 ws T h cells slots) (V : KVA Z h a k .double N f) (hd : decode cod pc = .ok (.dastore, 1)) (hj : j.toInt = (J : Int)) (hJ : J < N) (hg' : ∀ i, i < N → (if i = J then (.double x : Value) else f i) = g' i) (ha : n0 ≤ a) (hk : a ∈ ws ∨ h0.size ≤ a) {pc' : Nat} (hp : pc + 1 = pc') (k' : ∀ T' h', KPos wd p l e R s m args below meth c Z own n0 h0 ws T' h' cells slots → Wr h h' a J (.double x) → KVA Z h' a k .double N g' → KGo p e below K T' m pc' Ls st) : KGo p e below K T m pc Ls (.double x :: .int j :: .ref a :: st) := by
  subst hp
  obtain ⟨s', Lo, X, B, hZ, hown, eT, r1, r2, r3⟩ := P
  have V0 := V
  obtain ⟨cl, A, -, S, hN, H⟩ := V
  obtain ⟨q1, q2⟩ := k_idx hj (S.symm ▸ hJ)
  obtain ⟨T', h', X', e', W, stp⟩ := stD X C.1 hZ eT A q1 (g := mkF m pc Ls (.double x :: .int j :: .ref a :: st)) rfl rfl (hb C.cdE hd)
  have W' := W
  rw [q2] at W'
  exact (k' T' h' ⟨s', _, X', B.mono (Nat.le_of_eq W.size.symm), hZ, hown, e', W.size ▸ r1, Fr.snoc X' r2 ha, r3.wr W hk⟩ W' (V0.set W' hg')).step stp
theorem k_aastore {k : ClassId} {ty : FieldType} {N J : Nat} {f g' : Nat → Value} {j : Int32} {x : Value} (C : KCx tbl nm cod ml ret p meth c Z a0) (P : KPos wd p l e R s m args below meth c Z own n0 h0 ws T h cells slots) (V : KVA Z h a k ty N f) (hty : ty.isReference = true) (S0 : Sto Z h a x) (hd : decode cod pc = .ok (.aastore, 1)) (hj : j.toInt = (J : Int)) (hJ : J < N) (hg' : ∀ i, i < N → (if i = J then x else f i) = g' i) (ha : n0 ≤ a) (hk : a ∈ ws ∨ h0.size ≤ a) {pc' : Nat} (hp : pc + 1 = pc') (k' : ∀ T' h', KPos wd p l e R s m args below meth c Z own n0 h0 ws T' h' cells slots → Wr h h' a J x → KVA Z h' a k ty N g' → KGo p e below K T' m pc' Ls st) : KGo p e below K T m pc Ls (x :: .int j :: .ref a :: st) := by
  subst hp
  obtain ⟨s', Lo, X, B, hZ, hown, eT, r1, r2, r3⟩ := P
  have V0 := V
  obtain ⟨cl, A, -, S, hN, H⟩ := V
  obtain ⟨q1, q2⟩ := k_idx hj (S.symm ▸ hJ)
  obtain ⟨T', h', X', e', W, stp⟩ := stR X C.1 hZ eT A q1 hty S0 (g := mkF m pc Ls (x :: .int j :: .ref a :: st)) rfl rfl (hb C.cdE hd)
  have W' := W
  rw [q2] at W'
  exact (k' T' h' ⟨s', _, X', B.mono (Nat.le_of_eq W.size.symm), hZ, hown, e', W.size ▸ r1, Fr.snoc X' r2 ha, r3.wr W hk⟩ W' (V0.set W' hg')).step stp
theorem KVA.sto {k : ClassId} {N : Nat} {f : Nat → Value} {Cn K1 : String} {ty : FieldType} (V : KVA Z h a k ty N f) (O : Ovr Z k Cn) (I : Ins Z h b Cn true) : Sto Z h a (.ref b) := by
  obtain ⟨cl, A, q, -⟩ := V; exact Sto.ofV A q O I
theorem KVA.stoA {k : ClassId} {N : Nat} {f : Nat → Value} {Cn : String} {ty t0 : FieldType} (V : KVA Z h a k t0 N f) (O : OvrA Z k ty Cn) (I : Ins Z h b Cn true) : Sto Z h a (.ref b) := by
  obtain ⟨cl, A, q, -⟩ := V; exact Sto.ofVA A q O I
theorem k_ldcI {index : Nat} {z : Int32} (C : KCx tbl nm cod ml ret p meth c Z a0) (P : KPos wd p l e R s m args below meth c Z own n0 h0 ws T h cells slots) (w : (Jvm.Cond.constant own index z).before a0 Z = true) (hd : decode cod pc = .ok (.ldc index, 2)) {pc' : Nat} (hp : pc + 2 = pc') (k' : KGo p e below K T m pc' Ls (.int z :: st)) : KGo p e below K T m pc Ls st := by
  subst hp
  obtain ⟨s', L, X, B, hZ, hown, eT, r1⟩ := P
  exact k'.step fun t q => X.ldcInt C.1 hown (mvT hZ w) (g := mkF m pc Ls st) rfl (hb C.cdE hd) t q
theorem k_ldc2L {index : Nat} {z : Int64} (C : KCx tbl nm cod ml ret p meth c Z a0) (P : KPos wd p l e R s m args below meth c Z own n0 h0 ws T h cells slots) (w : (Jvm.Cond.constantLong own index z).before a0 Z = true) (hd : decode cod pc = .ok (.ldc2_w index, 3)) {pc' : Nat} (hp : pc + 3 = pc') (k' : KGo p e below K T m pc' Ls (.long z :: st)) : KGo p e below K T m pc Ls st := by
  subst hp
  obtain ⟨s', L, X, B, hZ, hown, eT, r1⟩ := P
  exact k'.step fun t q => X.ldc2Long C.1 hown (mvT hZ w) (g := mkF m pc Ls st) rfl (hb C.cdE hd) t q
theorem k_ldc2D {index : Nat} {z : UInt64} (C : KCx tbl nm cod ml ret p meth c Z a0) (P : KPos wd p l e R s m args below meth c Z own n0 h0 ws T h cells slots) (w : (Jvm.Cond.constantDouble own index z).before a0 Z = true) (hd : decode cod pc = .ok (.ldc2_w index, 3)) {pc' : Nat} (hp : pc + 3 = pc') (k' : KGo p e below K T m pc' Ls (.double z :: st)) : KGo p e below K T m pc Ls st := by
  subst hp
  obtain ⟨s', L, X, B, hZ, hown, eT, r1⟩ := P
  exact k'.step fun t q => X.ldc2DoubleC C.1 hown (mvT hZ w) (g := mkF m pc Ls st) rfl (hb C.cdE hd) t q
theorem k_castO {Kn : String} {index : Nat} (C : KCx tbl nm cod ml ret p meth c Z a0) (P : KPos wd p l e R s m args below meth c Z own n0 h0 ws T h cells slots) (w : (Jvm.Cond.classLink own index Kn).before a0 Z = true) (F : Ins Z h a Kn true) (hd : decode cod pc = .ok (.checkcast index, 3)) {pc' : Nat} (hp : pc + 3 = pc') (k' : ∀ T', KPos wd p l e R s m args below meth c Z own n0 h0 ws T' h cells slots → KGo p e below K T' m pc' Ls (.ref a :: st)) : KGo p e below K T m pc Ls (.ref a :: st) := by
  subst hp
  obtain ⟨s', L, X, B, hZ, hown, eT, r1⟩ := P
  obtain ⟨T', X', e', stp⟩ := castY X C.1 hZ hown w eT F (g := mkF m pc Ls (.ref a :: st)) rfl rfl (hb C.cdE hd)
  exact (k' T' ⟨s', L, X', B, hZ, hown, e', r1⟩).step stp
/-! ### calls -/
theorem k_initObj {index W : Nat} (C : KCx tbl nm cod ml ret p meth c Z a0) (P : KPos wd p l e R s m args below meth c Z own n0 h0 ws T h cells slots) (w1 : (Jvm.Cond.methodLink own index Lib.objectInit).before a0 Z = true) (w2 : (Jvm.Cond.instanceMethod Lib.objectInit).before a0 Z = true) (w3 : (Jvm.Cond.code Lib.objectInit ⟨#[0xb1]⟩ 1 none).before a0 Z = true)
    (hd : decode cod pc = .ok (.invokespecial index, 3)) (hsz : Ls.size = ml) (hf : 1 ≤ R.frames) (hW : (st.map fun v => v.category).sum ≤ W) (hl : W + 12 ≤ R.locals) {pc' : Nat} (hp : pc + 3 = pc') (k' : ∀ T', KPos wd p l e R s m args below meth c Z own n0 h0 ws T' h cells slots → KGo p e below K T' m pc' Ls st) : KGo p e below K T m pc Ls (.ref a :: st) := by
  subst hp
  obtain ⟨s', L, X, B, hZ, hown, eT, r1⟩ := P
  obtain ⟨T', X', e', stp⟩ := initO X C.1 hZ hown w1 w2 w3 eT (g := mkF m pc Ls (.ref a :: st)) rfl (hsz.trans C.mlE.symm) rfl (hb C.cdE hd) hf (by show 2 * 0 + _ ≤ _; rw [Nat.mul_zero, Nat.zero_add]; exact hW) hl
  exact (k' T' ⟨s', L, X', B, hZ, hown, e', r1⟩).step stp
theorem k_callN {y : MethodName} {index W maxL : Nat} {bytes : ByteArray} {rm : Room} {as : Array Value} {ws' : List Addr} {Q : Option Value → Heap → Prop} (C : KCx tbl nm cod ml ret p meth c Z a0) (P : KPos wd p l e R s m args below meth c Z own n0 h0 ws T h cells slots)
    (hy1 : y.name = "<init>") (w1 : (Jvm.Cond.methodLink own index y).before a0 Z = true) (w2 : (Jvm.Cond.instanceMethod y).before a0 Z = true) (w3 : (Jvm.Cond.code y bytes maxL none).before a0 Z = true) (w4 : (Jvm.Cond.initialized y.cls).before a0 Z = true) (hy : y.cls ≠ "java/lang/invoke/MethodHandle" ∧ y.cls ≠ "java/lang/invoke/VarHandle")
    (hM : KCt false l y bytes maxL none rm Z n0 h as ws' Q) (a : Addr) (argsL rest : List Value) (has : as = (.ref a :: argsL).toArray) (hlen : ∀ sig, parseMethodDescriptor y.desc = some sig → argsL.length = sig.parameters.length) (hst : st = argsL.reverse ++ .ref a :: rest) (hW : (rest.map fun v => v.category).sum ≤ W)
    (hd : decode cod pc = .ok (.invokespecial index, 3)) (hsz : Ls.size = ml) (hf : rm.frames + 1 ≤ R.frames) (hl : W + (maxL + 11) + rm.locals ≤ R.locals) {cells' slots' : Nat} (hc : cells + rm.cells = cells') (hs : slots + rm.slots = slots') (hc' : cells' ≤ R.cells) (hs' : slots' ≤ R.slots) (hws : ∀ x ∈ ws', x ∈ ws ∨ h0.size ≤ x) {pc' : Nat} (hp : pc + 3 = pc')
    (k' : ∀ T' h' v, KPos wd p l e R s m args below meth c Z own n0 h0 ws T' h' cells' slots' → Keep h h' ws' → Q v h' → KGo p e below K T' m pc' Ls (v.toList ++ rest)) : KGo p e below K T m pc Ls st := by
  subst hp hc hs has
  obtain ⟨s', L, X, B, hZ, hown, eT, r1, r2, r3⟩ := P
  obtain ⟨v, _, ⟨T', L', k1, n1⟩, -, X', ⟨Lc, ⟨q1, q2, q3⟩, l1, y1, z1⟩, stp⟩ := X.specialBack C.1 (y := y) hy1 hown (mvT hZ w1) (mvT hZ w2) (mvT hZ w3) hy (backOf (W := W) (Q := fun v h' L => Fr n0 L ∧ Keep h h' ws' ∧ Q v h') hM.plain hZ w3 w4 hf hl) (g := mkF m pc Ls st) rfl (hsz.trans C.mlE.symm) (Steps.refl _) (a := a) (argsL := argsL) (rest := rest) hlen hst (by show 2 * 0 + _ ≤ _; rw [Nat.mul_zero, Nat.zero_add]; exact hW) (hb C.cdE hd) (fun _ _ => ⟨rfl, eT, hc', hs'⟩)
  dsimp only [Pt.U, Pt.locs, Pt.cells, Pt.slots] at X' l1 y1 z1 stp q2 q3
  subst l1 y1 z1
  exact (k' T' T'.heap v ⟨s', _, X', B.mono q2.1, hZ, hown, rfl, Nat.le_trans r1 q2.1, Fr.app r2 q1, r3.trans q2 hws⟩ q2 q3).step fun t q => stp.trans q
theorem k_callV {y z : MethodName} {Cn : String} {index W maxL : Nat} {bytes : ByteArray} {rt : Option FieldType} {rm : Room} {as : Array Value} {ws' : List Addr} {Q : Option Value → Heap → Prop} (C : KCx tbl nm cod ml ret p meth c Z a0) (P : KPos wd p l e R s m args below meth c Z own n0 h0 ws T h cells slots)
    (w1 : (Jvm.Cond.methodLink own index y).before a0 Z = true) (wdc : (Jvm.Cond.declares y).before a0 Z = true) (nf : ∀ s' : State, Z.Warmed39 s'.vm → NotFace s' y) (wsel : (Jvm.Cond.selects Cn y z).before a0 Z = true) (w2 : (Jvm.Cond.instanceMethod z).before a0 Z = true) (w3 : (Jvm.Cond.code z bytes maxL rt).before a0 Z = true) (w4 : (Jvm.Cond.initialized z.cls).before a0 Z = true) (hy : y.cls ≠ "java/lang/invoke/MethodHandle" ∧ y.cls ≠ "java/lang/invoke/VarHandle")
    (hM : KCt false l z bytes maxL rt rm Z n0 h as ws' Q) (E : Exa Z h a Cn) (argsL rest : List Value) (has : as = (.ref a :: argsL).toArray) (hlen : ∀ sig, parseMethodDescriptor y.desc = some sig → argsL.length = sig.parameters.length) (hst : st = argsL.reverse ++ .ref a :: rest) (hW : (rest.map fun v => v.category).sum ≤ W)
    (hd : decode cod pc = .ok (.invokevirtual index, 3)) (hsz : Ls.size = ml) (hf : rm.frames + 1 ≤ R.frames) (hl : W + (maxL + 11) + rm.locals ≤ R.locals) {cells' slots' : Nat} (hc : cells + rm.cells = cells') (hs : slots + rm.slots = slots') (hc' : cells' ≤ R.cells) (hs' : slots' ≤ R.slots) (hws : ∀ x ∈ ws', x ∈ ws ∨ h0.size ≤ x) {pc' : Nat} (hp : pc + 3 = pc')
    (k' : ∀ T' h' v, KPos wd p l e R s m args below meth c Z own n0 h0 ws T' h' cells' slots' → Keep h h' ws' → Q v h' → KGo p e below K T' m pc' Ls (v.toList ++ rest)) : KGo p e below K T m pc Ls st := by
  subst hp hc hs has
  obtain ⟨s', L, X, B, hZ, hown, eT, r1, r2, r3⟩ := P
  obtain ⟨cq, kq, qa, qb, qc⟩ := isOf hZ eT E
  obtain ⟨v, _, ⟨T', L', k1, n1⟩, -, X', ⟨Lc, ⟨q1, q2, q3⟩, l1, y1, z1⟩, stp⟩ := X.virtualBack C.1 (y := y) (z := z) hown (mvT hZ w1) (mvT hZ wdc) (nf s' hZ) (mvT hZ wsel) (mvT hZ w2) hy (backOf (W := W) (Q := fun v h' L => Fr n0 L ∧ Keep h h' ws' ∧ Q v h') hM.plain hZ w3 w4 hf hl) qa qc (g := mkF m pc Ls st) rfl (hsz.trans C.mlE.symm) (Steps.refl _) (argsL := argsL) (rest := rest) hlen hst (by show 2 * 0 + _ ≤ _; rw [Nat.mul_zero, Nat.zero_add]; exact hW) (hb C.cdE hd) (fun _ _ => ⟨rfl, eT, hc', hs'⟩)
  dsimp only [Pt.U, Pt.locs, Pt.cells, Pt.slots] at X' l1 y1 z1 stp q2 q3
  subst l1 y1 z1
  exact (k' T' T'.heap v ⟨s', _, X', B.mono q2.1, hZ, hown, rfl, Nat.le_trans r1 q2.1, Fr.app r2 q1, r3.trans q2 hws⟩ q2 q3).step fun t q => stp.trans q
theorem k_callI {xi y : MethodName} {Cn : String} {index count W maxL : Nat} {bytes : ByteArray} {rt : Option FieldType} {rm : Room} {as : Array Value} {ws' : List Addr} {Q : Option Value → Heap → Prop} (C : KCx tbl nm cod ml ret p meth c Z a0) (P : KPos wd p l e R s m args below meth c Z own n0 h0 ws T h cells slots)
    (w1 : (Jvm.Cond.methodLink own index xi).before a0 Z = true) (wdc : (Jvm.Cond.declares xi).before a0 Z = true) (wf : (Jvm.Cond.interfaceMethod xi.cls xi.cls xi.name xi.desc).before a0 Z = true) (wsel : (Jvm.Cond.selects Cn xi y).before a0 Z = true) (w2 : (Jvm.Cond.instanceMethod y).before a0 Z = true) (wp : (Jvm.Cond.publicMethod y).before a0 Z = true) (wu : (Jvm.Cond.unhidden Cn xi.name xi.desc).before a0 Z = true) (wc : (Jvm.Cond.castable Cn xi.cls).before a0 Z = true)
    (w3 : (Jvm.Cond.code y bytes maxL rt).before a0 Z = true) (w4 : (Jvm.Cond.initialized y.cls).before a0 Z = true) (hy : xi.cls ≠ "java/lang/invoke/MethodHandle" ∧ xi.cls ≠ "java/lang/invoke/VarHandle")
    (hM : KCt false l y bytes maxL rt rm Z n0 h as ws' Q) (E : Exa Z h a Cn) (argsL rest : List Value) (has : as = (.ref a :: argsL).toArray) (hlen : ∀ sig, parseMethodDescriptor xi.desc = some sig → argsL.length = sig.parameters.length) (hst : st = argsL.reverse ++ .ref a :: rest) (hW : (rest.map fun v => v.category).sum ≤ W)
    (hd : decode cod pc = .ok (.invokeinterface index count, 5)) (hsz : Ls.size = ml) (hf : rm.frames + 1 ≤ R.frames) (hl : W + (maxL + 11) + rm.locals ≤ R.locals) {cells' slots' : Nat} (hc : cells + rm.cells = cells') (hs : slots + rm.slots = slots') (hc' : cells' ≤ R.cells) (hs' : slots' ≤ R.slots) (hws : ∀ x ∈ ws', x ∈ ws ∨ h0.size ≤ x) {pc' : Nat} (hp : pc + 5 = pc')
    (k' : ∀ T' h' v, KPos wd p l e R s m args below meth c Z own n0 h0 ws T' h' cells' slots' → Keep h h' ws' → Q v h' → KGo p e below K T' m pc' Ls (v.toList ++ rest)) : KGo p e below K T m pc Ls st := by
  subst hp hc hs has
  obtain ⟨s', L, X, B, hZ, hown, eT, r1, r2, r3⟩ := P
  obtain ⟨cq, kq, qa, qb, qc⟩ := isOf hZ eT E
  obtain ⟨v, _, ⟨T', L', k1, n1⟩, -, X', ⟨Lc, ⟨q1, q2, q3⟩, l1, y1, z1⟩, stp⟩ := X.interfaceBack C.1 (xi := xi) (y := y) hown (mvT hZ w1) (mvT hZ wdc) (mvT hZ wf (by simp [Cond.onTables, Cond.keepsFace, Cond.faceAtom, hy.1, hy.2])) (mvT hZ wsel) (mvT hZ w2) (mvT hZ wp) (mvT hZ wu) (mvT hZ wc) hy (backOf (W := W) (Q := fun v h' L => Fr n0 L ∧ Keep h h' ws' ∧ Q v h') hM.plain hZ w3 w4 hf hl) qa qb qc (g := mkF m pc Ls st) rfl (hsz.trans C.mlE.symm) (Steps.refl _) (argsL := argsL) (rest := rest) hlen hst (by show 2 * 0 + _ ≤ _; rw [Nat.mul_zero, Nat.zero_add]; exact hW) (hb C.cdE hd) (fun _ _ => ⟨rfl, eT, hc', hs'⟩)
  dsimp only [Pt.U, Pt.locs, Pt.cells, Pt.slots] at X' l1 y1 z1 stp q2 q3
  subst l1 y1 z1
  exact (k' T' T'.heap v ⟨s', _, X', B.mono q2.1, hZ, hown, rfl, Nat.le_trans r1 q2.1, Fr.app r2 q1, r3.trans q2 hws⟩ q2 q3).step fun t q => stp.trans q
theorem k_callP {y : MethodName} {Cn : String} {index W maxL : Nat} {bytes : ByteArray} {rt : Option FieldType} {rm : Room} {as : Array Value} {ws' : List Addr} {Q : Option Value → Heap → Prop} (C : KCx tbl nm cod ml ret p meth c Z a0) (P : KPos wd p l e R s m args below meth c Z own n0 h0 ws T h cells slots)
    (w1 : (Jvm.Cond.methodLink own index y).before a0 Z = true) (w2 : (Jvm.Cond.instanceMethod y).before a0 Z = true) (wsel : (Jvm.Cond.selects y.cls y y).before a0 Z = true) (wp : (Jvm.Cond.privateMethod y).before a0 Z = true) (w3 : (Jvm.Cond.code y bytes maxL rt).before a0 Z = true) (w4 : (Jvm.Cond.initialized y.cls).before a0 Z = true) (hy : y.cls ≠ "java/lang/invoke/MethodHandle" ∧ y.cls ≠ "java/lang/invoke/VarHandle")
    (hM : KCt false l y bytes maxL rt rm Z n0 h as ws' Q) (E : Exa Z h a Cn) (argsL rest : List Value) (has : as = (.ref a :: argsL).toArray) (hlen : ∀ sig, parseMethodDescriptor y.desc = some sig → argsL.length = sig.parameters.length) (hst : st = argsL.reverse ++ .ref a :: rest) (hW : (rest.map fun v => v.category).sum ≤ W)
    (hd : decode cod pc = .ok (.invokevirtual index, 3)) (hsz : Ls.size = ml) (hf : rm.frames + 1 ≤ R.frames) (hl : W + (maxL + 11) + rm.locals ≤ R.locals) {cells' slots' : Nat} (hc : cells + rm.cells = cells') (hs : slots + rm.slots = slots') (hc' : cells' ≤ R.cells) (hs' : slots' ≤ R.slots) (hws : ∀ x ∈ ws', x ∈ ws ∨ h0.size ≤ x) {pc' : Nat} (hp : pc + 3 = pc')
    (k' : ∀ T' h' v, KPos wd p l e R s m args below meth c Z own n0 h0 ws T' h' cells' slots' → Keep h h' ws' → Q v h' → KGo p e below K T' m pc' Ls (v.toList ++ rest)) : KGo p e below K T m pc Ls st := by
  subst hp hc hs has
  obtain ⟨s', L, X, B, hZ, hown, eT, r1, r2, r3⟩ := P
  obtain ⟨cq, qa, qb⟩ := E.cell
  obtain ⟨v, _, ⟨T', L', k1, n1⟩, -, X', ⟨Lc, ⟨q1, q2, q3⟩, l1, y1, z1⟩, stp⟩ := X.privateBack C.1 (y := y) hown (mvT hZ w1) (mvT hZ w2) (mvT hZ wsel) (Cond.privateMethod_at (mvP hZ wp (args := #[]))) (mvT hZ w3) hy (backOf (W := W) (Q := fun v h' L => Fr n0 L ∧ Keep h h' ws' ∧ Q v h') hM.plain hZ w3 w4 hf hl) (g := mkF m pc Ls st) rfl (hsz.trans C.mlE.symm) (Steps.refl _) (a := a) (by rw [eT]; exact qa) qb (argsL := argsL) (rest := rest) hlen hst (by show 2 * 0 + _ ≤ _; rw [Nat.mul_zero, Nat.zero_add]; exact hW) (hb C.cdE hd) (fun _ _ => ⟨rfl, eT, hc', hs'⟩)
  dsimp only [Pt.U, Pt.locs, Pt.cells, Pt.slots] at X' l1 y1 z1 stp q2 q3
  subst l1 y1 z1
  exact (k' T' T'.heap v ⟨s', _, X', B.mono q2.1, hZ, hown, rfl, Nat.le_trans r1 q2.1, Fr.app r2 q1, r3.trans q2 hws⟩ q2 q3).step fun t q => stp.trans q
theorem k_callT {y : MethodName} {index W maxL : Nat} {bytes : ByteArray} {rt : Option FieldType} {rm : Room} {as : Array Value} {ws' : List Addr} {Q : Option Value → Heap → Prop} (C : KCx tbl nm cod ml ret p meth c Z a0) (P : KPos wd p l e R s m args below meth c Z own n0 h0 ws T h cells slots)
    (w1 : (Jvm.Cond.methodLink own index y).before a0 Z = true) (w2 : (Jvm.Cond.static y).before a0 Z = true) (w3 : (Jvm.Cond.code y bytes maxL rt).before a0 Z = true) (w4 : (Jvm.Cond.initialized y.cls).before a0 Z = true) (hy : y.cls ≠ "java/lang/invoke/MethodHandle" ∧ y.cls ≠ "java/lang/invoke/VarHandle")
    (hM : KCt false l y bytes maxL rt rm Z n0 h as ws' Q) (argsL rest : List Value) (has : as = argsL.toArray) (hlen : ∀ sig, parseMethodDescriptor y.desc = some sig → argsL.length = sig.parameters.length) (hst : st = argsL.reverse ++ rest) (hW : (rest.map fun v => v.category).sum ≤ W)
    (hd : decode cod pc = .ok (.invokestatic index, 3)) (hsz : Ls.size = ml) (hf : rm.frames + 1 ≤ R.frames) (hl : W + (maxL + 11) + rm.locals ≤ R.locals) {cells' slots' : Nat} (hc : cells + rm.cells = cells') (hs : slots + rm.slots = slots') (hc' : cells' ≤ R.cells) (hs' : slots' ≤ R.slots) (hws : ∀ x ∈ ws', x ∈ ws ∨ h0.size ≤ x) {pc' : Nat} (hp : pc + 3 = pc')
    (k' : ∀ T' h' v, KPos wd p l e R s m args below meth c Z own n0 h0 ws T' h' cells' slots' → Keep h h' ws' → Q v h' → KGo p e below K T' m pc' Ls (v.toList ++ rest)) : KGo p e below K T m pc Ls st := by
  subst hp hc hs has
  obtain ⟨s', L, X, B, hZ, hown, eT, r1, r2, r3⟩ := P
  obtain ⟨v, _, ⟨T', L', k1, n1⟩, -, X', ⟨Lc, ⟨q1, q2, q3⟩, l1, y1, z1⟩, stp⟩ := Jvm.LawKit.callS X C.1 (y := y) hown (mvT hZ w1) (mvT hZ w2) (mvT hZ w4) (mvT hZ w3) hy (backOf (W := W) (Q := fun v h' L => Fr n0 L ∧ Keep h h' ws' ∧ Q v h') hM.plain hZ w3 w4 hf hl) (g := mkF m pc Ls st) rfl (hsz.trans C.mlE.symm) (argsL := argsL) (rest := rest) hlen hst (by show 2 * 0 + _ ≤ _; rw [Nat.mul_zero, Nat.zero_add]; exact hW) (hb C.cdE hd) (fun _ _ => ⟨rfl, eT, hc', hs'⟩)
  dsimp only [Pt.U, Pt.locs, Pt.cells, Pt.slots] at X' l1 y1 z1 stp q2 q3
  subst l1 y1 z1
  exact (k' T' T'.heap v ⟨s', _, X', B.mono q2.1, hZ, hown, rfl, Nat.le_trans r1 q2.1, Fr.app r2 q1, r3.trans q2 hws⟩ q2 q3).step stp
theorem k_ldcS {index : Nat} {text : String} {n : Nat} (C : KCx tbl nm cod ml ret p meth c Z a0) (P : KPos true p l e R s m args below meth c Z own n0 h0 ws T h cells slots) (w : (Jvm.Cond.stringLink own index text).before a0 Z = true) (wS : ∀ a ∈ Bundle.stringAtoms, a.before a0 Z = true) (hd : decode cod pc = .ok (.ldc index, 2)) (hn : 4 * text.toList.length ≤ n) (hbig : n ≤ 536870912)
    {cells' slots' : Nat} (hc : cells + 2 = cells') (hs : slots + (n + 4) = slots') (hc' : cells' ≤ R.cells) (hs' : slots' ≤ R.slots) {pc' : Nat} (hp : pc + 2 = pc')
    (k' : ∀ T' h' a, KPos true p l e R s m args below meth c Z own n0 h0 ws T' h' cells' slots' → Ext h h' → KGo p e below K T' m pc' Ls (.ref a :: st)) : KGo p e below K T m pc Ls st := by
  subst hp hc hs
  obtain ⟨s', Lo, X, ⟨vm, k0, rfl, hS, hk0⟩, hZ, hown, eT, r1, r2, r3⟩ := P
  obtain ⟨a, T', h', k1, X', e', E, hS', hk1, hZ', hown', stp⟩ := ldcS X C.1 hZ hown w wS eT hS hk0 (g := mkF m pc Ls st) rfl (hb C.cdE hd) hn hbig hc' hs'
  exact (k' T' h' a ⟨s.setVm T'.vm, Lo, X', ⟨T'.vm, k1, rfl, hS', hk1⟩, hZ', hown', e', Nat.le_trans r1 E.1, r2, r3.ext E⟩ E).step stp
end Kit
end Jvm.OwnKit
namespace Jvm.OwnNum
theorem toInt {x : Int32} {n : Nat} (h : x.toBitVec.toNat = n) (hn : n < 2147483648) : x.toInt = (n : Int) := by
  show x.toBitVec.toInt = _
  rw [BitVec.toInt_eq_toNat_cond, if_pos (by omega), h]
theorem toNat {x : Int32} {n : Nat} (h : x.toInt = (n : Int)) : x.toBitVec.toNat = n := by
  have := x.toBitVec.isLt
  change x.toBitVec.toInt = _ at h
  rw [BitVec.toInt_eq_toNat_cond] at h
  split at h <;> omega
theorem small {x : Int32} {n : Nat} (h : x.toInt = (n : Int)) : n < 2147483648 := by have := Int32.toInt_lt x; omega
/-- x & m, m not negative -/
theorem mask (x m : Int32) {M : Nat} (hm : m.toInt = (M : Int)) : ∃ N : Nat, (x &&& m).toInt = (N : Int) ∧ N ≤ M := by
  have h1 := toNat hm
  have h2 : (x &&& m).toBitVec.toNat ≤ M := by rw [Int32.toBitVec_and, BitVec.toNat_and, h1]; exact Nat.and_le_right
  have h3 := small hm
  exact ⟨_, toInt rfl (by omega), h2⟩
theorem add {x y : Int32} {X Y : Nat} (hx : x.toInt = (X : Int)) (hy : y.toInt = (Y : Int)) (h : X + Y < 2147483648) : (x + y).toInt = ((X + Y : Nat) : Int) := by
  refine toInt ?_ h
  rw [Int32.toBitVec_add, BitVec.toNat_add, toNat hx, toNat hy]; omega
theorem rem {x y : Int32} {X Y : Nat} (hx : x.toInt = (X : Int)) (hy : y.toInt = (Y : Int)) (h : 0 < Y) : (x % y).toInt = ((X % Y : Nat) : Int) := by
  rw [(Jvm.RoadKit.c_irem x y Y hy).1 (by omega), hx]; rfl
theorem ne0 {y : Int32} {Y : Nat} (hy : y.toInt = (Y : Int)) (h : 0 < Y) : y ≠ 0 := fun e => by subst e; have : (0 : Int32).toInt = 0 := rfl; omega
theorem eq_iff {x y : Int32} {X Y : Nat} (hx : x.toInt = (X : Int)) (hy : y.toInt = (Y : Int)) : x = y ↔ X = Y := by
  rw [← Int32.toInt_inj, hx, hy]; omega
theorem lt_iff {x y : Int32} {X Y : Nat} (hx : x.toInt = (X : Int)) (hy : y.toInt = (Y : Int)) : x < y ↔ X < Y := by
  rw [Int32.lt_iff_toInt_lt, hx, hy]; omega
end Jvm.OwnNum

namespace Jvm.Pilot.@@N@@
open Jvm Jvm.ClassFile Sem Op Lib Jvm.Free Jvm.Stand Jvm.LawKit Jvm.RoadKit Jvm.OwnKit Bundle Jvm.Pilot.@@N@@.Jvm.D
theorem own_sa {Z : State} {a0 : Array Value} (hw : ∀ d ∈ tables_1, d.before a0 Z = true) : ∀ a ∈ Bundle.stringAtoms, a.before a0 Z = true := (List.forall_mem_cons.mpr ⟨(hw _ (List.mem_of_getElem? (i := 2) rfl)), (List.forall_mem_cons.mpr ⟨(hw _ (List.mem_of_getElem? (i := 10) rfl)), (List.forall_mem_cons.mpr ⟨(hw _ (List.mem_of_getElem? (i := 14) rfl)), (List.forall_mem_cons.mpr ⟨(hw _ (List.mem_of_getElem? (i := 23) rfl)), (List.forall_mem_cons.mpr ⟨(hw _ (List.mem_of_getElem? (i := 25) rfl)), (List.forall_mem_cons.mpr ⟨(hw _ (List.mem_of_getElem? (i := 35) rfl)), (List.forall_mem_cons.mpr ⟨(hw _ (List.mem_of_getElem? (i := 36) rfl)), (by simp)⟩)⟩)⟩)⟩)⟩)⟩)⟩)
theorem d1_0 : decode jdk_42_method_139_code 0 = .ok (.getstatic 38, 3) := by decide +kernel
theorem d1_3 : decode jdk_42_method_139_code 3 = .ok (.ifCond .eq 23, 3) := by decide +kernel
theorem d1_6 : decode jdk_42_method_139_code 6 = .ok (.iload_n 0, 1) := by decide +kernel
theorem d1_7 : decode jdk_42_method_139_code 7 = .ok (.invokestatic 1015, 3) := by decide +kernel
theorem d1_10 : decode jdk_42_method_139_code 10 = .ok (.ifCond .eq 16, 3) := by decide +kernel
theorem d1_13 : decode jdk_42_method_139_code 13 = .ok (.new 10, 3) := by decide +kernel
theorem d1_16 : decode jdk_42_method_139_code 16 = .ok (.dup, 1) := by decide +kernel
theorem d1_17 : decode jdk_42_method_139_code 17 = .ok (.iload_n 0, 1) := by decide +kernel
theorem d1_18 : decode jdk_42_method_139_code 18 = .ok (.invokestatic 1018, 3) := by decide +kernel
theorem d1_21 : decode jdk_42_method_139_code 21 = .ok (.iconst 0, 1) := by decide +kernel
theorem d1_22 : decode jdk_42_method_139_code 22 = .ok (.invokespecial 209, 3) := by decide +kernel
theorem d1_25 : decode jdk_42_method_139_code 25 = .ok (.areturn, 1) := by decide +kernel
theorem d2_0 : decode jdk_43_method_3_code 0 = .ok (.iload_n 0, 1) := by decide +kernel
theorem d2_1 : decode jdk_43_method_3_code 1 = .ok (.sipush 255, 3) := by decide +kernel
theorem d2_4 : decode jdk_43_method_3_code 4 = .ok (.if_icmp .gt 7, 3) := by decide +kernel
theorem d2_7 : decode jdk_43_method_3_code 7 = .ok (.iconst 1, 1) := by decide +kernel
theorem d2_8 : decode jdk_43_method_3_code 8 = .ok (.goto 4, 3) := by decide +kernel
theorem d2_12 : decode jdk_43_method_3_code 12 = .ok (.ireturn, 1) := by decide +kernel
theorem d3_0 : decode jdk_43_method_46_code 0 = .ok (.iconst 1, 1) := by decide +kernel
theorem d3_1 : decode jdk_43_method_46_code 1 = .ok (.newarray .byte, 2) := by decide +kernel
theorem d3_3 : decode jdk_43_method_46_code 3 = .ok (.dup, 1) := by decide +kernel
theorem d3_4 : decode jdk_43_method_46_code 4 = .ok (.iconst 0, 1) := by decide +kernel
theorem d3_5 : decode jdk_43_method_46_code 5 = .ok (.iload_n 0, 1) := by decide +kernel
theorem d3_6 : decode jdk_43_method_46_code 6 = .ok (.i2b, 1) := by decide +kernel
theorem d3_7 : decode jdk_43_method_46_code 7 = .ok (.bastore, 1) := by decide +kernel
theorem d3_8 : decode jdk_43_method_46_code 8 = .ok (.areturn, 1) := by decide +kernel
theorem d4_0 : decode jdk_42_method_151_code 0 = .ok (.aload_n 0, 1) := by decide +kernel
theorem d4_1 : decode jdk_42_method_151_code 1 = .ok (.invokespecial 1, 3) := by decide +kernel
theorem d4_4 : decode jdk_42_method_151_code 4 = .ok (.aload_n 0, 1) := by decide +kernel
theorem d4_5 : decode jdk_42_method_151_code 5 = .ok (.aload_n 1, 1) := by decide +kernel
theorem d4_6 : decode jdk_42_method_151_code 6 = .ok (.putfield 9, 3) := by decide +kernel
theorem d4_9 : decode jdk_42_method_151_code 9 = .ok (.aload_n 0, 1) := by decide +kernel
theorem d4_10 : decode jdk_42_method_151_code 10 = .ok (.iload_n 2, 1) := by decide +kernel
theorem d4_11 : decode jdk_42_method_151_code 11 = .ok (.putfield 15, 3) := by decide +kernel
theorem d4_14 : decode jdk_42_method_151_code 14 = .ok (.return_, 1) := by decide +kernel
theorem d6_0 : decode prog_68_method_1_code 0 = .ok (.aload_n 0, 1) := by decide +kernel
theorem d6_1 : decode prog_68_method_1_code 1 = .ok (.invokespecial 1, 3) := by decide +kernel
theorem d6_4 : decode prog_68_method_1_code 4 = .ok (.aload_n 0, 1) := by decide +kernel
theorem d6_5 : decode prog_68_method_1_code 5 = .ok (.aload_n 1, 1) := by decide +kernel
theorem d6_6 : decode prog_68_method_1_code 6 = .ok (.putfield 7, 3) := by decide +kernel
theorem d6_9 : decode prog_68_method_1_code 9 = .ok (.aload_n 0, 1) := by decide +kernel
theorem d6_10 : decode prog_68_method_1_code 10 = .ok (.aload_n 2, 1) := by decide +kernel
theorem d6_11 : decode prog_68_method_1_code 11 = .ok (.putfield 13, 3) := by decide +kernel
theorem d6_14 : decode prog_68_method_1_code 14 = .ok (.aload_n 0, 1) := by decide +kernel
theorem d6_15 : decode prog_68_method_1_code 15 = .ok (.aload_n 3, 1) := by decide +kernel
theorem d6_16 : decode prog_68_method_1_code 16 = .ok (.putfield 17, 3) := by decide +kernel
theorem d6_19 : decode prog_68_method_1_code 19 = .ok (.return_, 1) := by decide +kernel
theorem d7_0 : decode prog_68_method_5_code 0 = .ok (.aload_n 0, 1) := by decide +kernel
theorem d7_1 : decode prog_68_method_5_code 1 = .ok (.getfield 17, 3) := by decide +kernel
theorem d7_4 : decode prog_68_method_5_code 4 = .ok (.ifnull 12, 3) := by decide +kernel
theorem d7_7 : decode prog_68_method_5_code 7 = .ok (.aload_n 0, 1) := by decide +kernel
theorem d7_8 : decode prog_68_method_5_code 8 = .ok (.getfield 17, 3) := by decide +kernel
theorem d7_11 : decode prog_68_method_5_code 11 = .ok (.iload_n 1, 1) := by decide +kernel
theorem d7_12 : decode prog_68_method_5_code 12 = .ok (.aaload, 1) := by decide +kernel
theorem d7_13 : decode prog_68_method_5_code 13 = .ok (.ifnonnull 7, 3) := by decide +kernel
theorem d7_16 : decode prog_68_method_5_code 16 = .ok (.iconst 1, 1) := by decide +kernel
theorem d7_17 : decode prog_68_method_5_code 17 = .ok (.goto 4, 3) := by decide +kernel
theorem d7_20 : decode prog_68_method_5_code 20 = .ok (.iconst 0, 1) := by decide +kernel
theorem d7_21 : decode prog_68_method_5_code 21 = .ok (.ireturn, 1) := by decide +kernel
theorem pd_0 : parseMethodDescriptor "(C)Z" = some ⟨[.char], some .boolean⟩ := by decide +kernel
theorem pd_1 : parseMethodDescriptor "(C)[B" = some ⟨[.char], some (.array .byte)⟩ := by decide +kernel
theorem pd_2 : parseMethodDescriptor "([BB)V" = some ⟨[(.array .byte), .byte], none⟩ := by decide +kernel
theorem pd_3 : parseMethodDescriptor "(C)Ljava/lang/String;" = some ⟨[.char], some (.object "java/lang/String")⟩ := by decide +kernel
theorem pd_4 : parseMethodDescriptor "(Ljava/lang/String;[D[Ljava/lang/String;)V" = some ⟨[(.object "java/lang/String"), (.array .double), (.array (.object "java/lang/String"))], none⟩ := by decide +kernel
theorem pd_5 : parseMethodDescriptor "(I)Z" = some ⟨[.int], some .boolean⟩ := by decide +kernel
abbrev layS : List (String × String × String) := [("java/lang/String", "coder", "B"), ("java/lang/String", "value", "[B")]
theorem lokS {Z : State} {a0 : Array Value} (hw : ∀ d ∈ tables_1, d.before a0 Z = true) : KLay Z a0 "java/lang/String" layS := ⟨(List.forall_mem_cons.mpr ⟨⟨Or.inr (hw _ (List.mem_of_getElem? (i := 25) rfl)), by decide⟩, (List.forall_mem_cons.mpr ⟨⟨Or.inr (hw _ (List.mem_of_getElem? (i := 23) rfl)), by decide⟩, (by simp)⟩)⟩), by decide⟩
abbrev layV : List (String × String × String) := [("com/example/pactline/pactline/model/Service", "id", "Ljava/lang/String;"), ("com/example/pactline/pactline/model/Service", "values", "[D"), ("com/example/pactline/pactline/model/Service", "written", "[Ljava/lang/String;")]
theorem lokV {Z : State} {a0 : Array Value} (hw : ∀ d ∈ tables_1, d.before a0 Z = true) : KLay Z a0 "com/example/pactline/pactline/model/Service" layV := ⟨(List.forall_mem_cons.mpr ⟨⟨Or.inr (hw _ (List.mem_of_getElem? (i := 42) rfl)), by decide⟩, (List.forall_mem_cons.mpr ⟨⟨Or.inr (hw _ (List.mem_of_getElem? (i := 44) rfl)), by decide⟩, (List.forall_mem_cons.mpr ⟨⟨Or.inr (hw _ (List.mem_of_getElem? (i := 46) rfl)), by decide⟩, (by simp)⟩)⟩)⟩), by decide⟩

theorem own_01 (P : Prop) [Decidable P] : (if P then (0 : Int32) else 1) = 0 ∨ (if P then (0 : Int32) else 1) = 1 := by by_cases p : P <;> simp [p]
theorem own_i2c {x : Int32} {M : Nat} (h : x.toInt = (M : Int)) (hM : M ≤ 65535) : x.toUInt32.toUInt16.toUInt32.toInt32 = x := by
  have e := OwnNum.toNat h
  refine Int32.toBitVec_inj.mp (BitVec.eq_of_toNat_eq ?_)
  show ((x.toBitVec.setWidth 16).setWidth 32).toNat = x.toBitVec.toNat
  rw [BitVec.toNat_setWidth, BitVec.toNat_setWidth]; omega
theorem own_255 (c : Int32) : ¬ (255 : Int32) < (c &&& (255 : Int32)).toUInt32.toUInt16.toUInt32.toInt32 := by
  obtain ⟨M, h1, h2⟩ := OwnNum.mask c 255 (M := 255) rfl
  rw [own_i2c h1 (by omega)]
  rw [OwnNum.lt_iff (show (255 : Int32).toInt = ((255 : Nat) : Int) from rfl) h1]; omega
theorem own_q (p : Int32) : ∃ X : Nat, ((p &&& (2147483647 : Int32)) % (3 : Int32)).toInt = (X : Int) ∧ X < 3 := by
  obtain ⟨M, h1, h2⟩ := OwnNum.mask p 2147483647 (M := 2147483647) rfl
  exact ⟨M % 3, OwnNum.rem h1 (show (3 : Int32).toInt = ((3 : Nat) : Int) from rfl) (by decide), Nat.mod_lt _ (by decide)⟩
theorem own_two {y : Int32} {Y : Nat} (hY : y.toInt = (Y : Int)) (h : Y < 3) (q : ¬ y = 0) (r : ¬ y = 1) : y.toInt = ((2 : Nat) : Int) := by
  rw [OwnNum.eq_iff hY (show (0 : Int32).toInt = ((0 : Nat) : Int) from rfl)] at q
  rw [OwnNum.eq_iff hY (show (1 : Int32).toInt = ((1 : Nat) : Int) from rfl)] at r
  rw [hY, show Y = 2 by omega]
theorem own_cs {s : State} {args : Array Value} (h : ∀ d ∈ jdkStatics_1, d.before args s = true) : ∃ cs : Int32, ¬ cs = 0 ∧ Sta s s.heap "java/lang/String" "COMPACT_STRINGS" "Z" (.int cs) := by
  have c0 := h _ (List.mem_of_getElem? (i := 0) rfl)
  have c1 := Cond.before_iff.mp (h _ (List.mem_of_getElem? (i := 1) rfl))
  have c2 := Cond.before_iff.mp (h _ (List.mem_of_getElem? (i := 2) rfl))
  obtain ⟨cs, ecs⟩ := is_v c1
  exact ⟨cs, gotF (Cond.eq_ints ecs (Term.int_eval 0)) (not_v c2), Sta.start ecs (Or.inl c0)⟩
theorem pn_2 : plainName "java/lang/StringLatin1" = true := by first | (simp [plainName, overriddenIn]; done) | decide +kernel
theorem ef_rmEnc (m : MethodId) (x0 : Int32) : entryFrame m #[(.int x0)] 1 = mkF m 0 #[.val (.int x0)] [] := by first | (simp [entryFrame, mkF, argsToLocals, Value.category]; done) | rfl
set_option maxRecDepth 65536 in
set_option maxHeartbeats 40000000 in
theorem rmEnc (l : Launch) (Z : State) (a0 : Array Value) (hw : ∀ d ∈ tables_1, d.before a0 Z = true) (h0 : Heap) (n0 : Nat) (Z0 : n0 ≤ h0.size) (x : Int32) (h1 : ¬ 255 < x) :
    KCt false l (⟨"java/lang/StringLatin1", "canEncode", "(C)Z"⟩ : MethodName) jdk_43_method_3_code 1 (some .boolean) ({ frames := 0, cells := 0, slots := 0, locals := 0 } : Room) Z n0 h0 #[(.int x)] [] (fun v h => v = some (.int 1) ∧ h0 = h) := by
  refine k_enter (tbl := tables_1) (a0 := a0) (Ls := #[.val (.int x)]) (plainFor_of_name pn_2) hw Z0 (fun m => ef_rmEnc m x) ?_
  intro p e s m below meth c T C P
  refine k_iloadN (pc' := 1) C P d2_0 rfl rfl ?_
  refine k_sipush (z := (255 : Int32)) (pc' := 4) C P d2_1 rfl rfl ?_
  refine k_icN (pc' := 7) C P d2_4 h1 rfl ?_
  refine k_iconst (z := (1 : Int32)) (pc' := 8) C P d2_7 rfl rfl ?_
  refine k_goto (pc' := 12) C P d2_8 (by decide) (by decide) ?_
  exact k_retZ (z' := (1 : Int32)) C P (by simp) d2_12 rfl (by decide) (by decide) ⟨rfl, rfl⟩
theorem pn_3 : plainName "java/lang/StringLatin1" = true := by first | (simp [plainName, overriddenIn]; done) | decide +kernel
theorem ef_rmTB (m : MethodId) (x0 : Int32) : entryFrame m #[(.int x0)] 1 = mkF m 0 #[.val (.int x0)] [] := by first | (simp [entryFrame, mkF, argsToLocals, Value.category]; done) | rfl
set_option maxRecDepth 65536 in
set_option maxHeartbeats 40000000 in
theorem rmTB (l : Launch) (Z : State) (a0 : Array Value) (hw : ∀ d ∈ tables_1, d.before a0 Z = true) (h0 : Heap) (n0 : Nat) (Z0 : n0 ≤ h0.size) (x : Int32) :
    KCt false l (⟨"java/lang/StringLatin1", "toBytes", "(C)[B"⟩ : MethodName) jdk_43_method_46_code 1 (some (.array .byte)) ({ frames := 0, cells := 1, slots := 1, locals := 0 } : Room) Z n0 h0 #[(.int x)] [] (fun v h => ∃ b : Addr, v = some (.ref b) ∧ n0 ≤ b ∧ h0.size ≤ b) := by
  refine k_enter (tbl := tables_1) (a0 := a0) (Ls := #[.val (.int x)]) (plainFor_of_name pn_3) hw Z0 (fun m => ef_rmTB m x) ?_
  intro p e s m below meth c T C P
  refine k_iconst (z := (1 : Int32)) (pc' := 1) C P d3_0 rfl rfl ?_
  refine k_newp (pc' := 3) (cells' := 1) (slots' := 1) (N := 1) (cap := 1) C P (C.w 14 rfl) d3_1 rfl (by decide) (by decide) rfl rfl (by decide) (by decide) rfl ?_
  intro T1 h1 b1 k1 P1 hs1 ge_b1 sz_b1 E1 V1
  refine k_dup (pc' := 4) C P1 d3_3 rfl rfl ?_
  refine k_iconst (z := (0 : Int32)) (pc' := 5) C P1 d3_4 rfl rfl ?_
  refine k_iloadN (pc' := 6) C P1 d3_5 rfl rfl ?_
  refine k_i2b (pc' := 7) C P1 d3_6 rfl ?_
  refine k_bastore (J := 0) (g' := (fun _ => .int x.toInt8.toInt32.toInt8.toInt32)) (pc' := 8) C P1 V1 d3_7 rfl (by decide) (fun i hi => by rw [if_pos (by omega)]; rfl) ge_b1 (Or.inr sz_b1) rfl ?_
  intro T2 h2 P2 W2 V2
  exact k_retA C P2 d3_8 rfl rfl (by decide) (by decide) ⟨b1, rfl, ge_b1, sz_b1⟩
theorem pn_4 : plainName "java/lang/String" = true := by first | (simp [plainName, overriddenIn]; done) | decide +kernel
theorem ef_rmSI (m : MethodId) (x0 : Addr) (x1 : Addr) (x2 : Int32) : entryFrame m #[(.ref x0), (.ref x1), (.int x2)] 3 = mkF m 0 #[.val (.ref x0), .val (.ref x1), .val (.int x2)] [] := by first | (simp [entryFrame, mkF, argsToLocals, Value.category]; done) | rfl
set_option maxRecDepth 65536 in
set_option maxHeartbeats 40000000 in
theorem rmSI (l : Launch) (Z : State) (a0 : Array Value) (hw : ∀ d ∈ tables_1, d.before a0 Z = true) (h0 : Heap) (n0 : Nat) (Z0 : n0 ≤ h0.size) (a b : Addr) (ge_a : n0 ≤ a) (F : KOb Z h0 a "java/lang/String" layS [.int 0, .null]) :
    KCt false l (⟨"java/lang/String", "<init>", "([BB)V"⟩ : MethodName) jdk_42_method_151_code 3 none ({ frames := 1, cells := 0, slots := 0, locals := 15 } : Room) Z n0 h0 #[(.ref a), (.ref b), (.int 0)] [a] (fun v h => v = none ∧ KOb Z h a "java/lang/String" layS [.int 0, .ref b]) := by
  refine k_enter (tbl := tables_1) (a0 := a0) (Ls := #[.val (.ref a), .val (.ref b), .val (.int 0)]) (plainFor_of_name pn_4) hw Z0 (fun m => ef_rmSI m a b 0) ?_
  intro p e s m below meth c T C P
  have sz_a : a ∈ [a] ∨ h0.size ≤ a := Or.inl (by simp)
  refine k_aloadN (pc' := 1) C P d4_0 rfl rfl rfl ?_
  refine k_initObj (pc' := 4) (W := 0) C P (C.w 19 rfl) (C.w 20 rfl) (C.w 21 rfl) d4_1 rfl (by decide) (by decide) (by decide) rfl ?_
  intro T3 P3
  refine k_aloadN (pc' := 5) C P3 d4_4 rfl rfl rfl ?_
  refine k_aloadN (pc' := 6) C P3 d4_5 rfl rfl rfl ?_
  refine k_putf (pc' := 9) (ty := (.array .byte)) (v' := (.ref b)) C P3 (C.w 22 rfl) Via.refl F 1 rfl (Or.inr ⟨(C.w 23 rfl), rfl, rfl⟩) (C.w 10 rfl) (by decide) rfl rfl d4_6 ge_a sz_a rfl ?_
  intro T4 h4 P4 W4
  have f4_a : KOb Z h4 a "java/lang/String" layS [(.int (0 : Int32)), (.ref b)] := F.put (lokS C.hw) 1 rfl W4 rfl
  refine k_aloadN (pc' := 10) C P4 d4_9 rfl rfl rfl ?_
  refine k_iloadN (pc' := 11) C P4 d4_10 rfl rfl ?_
  refine k_putf (pc' := 14) (ty := .byte) (v' := (.int (0 : Int32))) C P4 (C.w 24 rfl) Via.refl f4_a 0 rfl (Or.inr ⟨(C.w 25 rfl), rfl, rfl⟩) (C.w 10 rfl) (by decide) rfl rfl d4_11 ge_a sz_a rfl ?_
  intro T5 h5 P5 W5
  have f5_a : KOb Z h5 a "java/lang/String" layS [(.int (0 : Int32)), (.ref b)] := f4_a.put (lokS C.hw) 0 rfl W5 rfl
  exact k_retV C P5 d4_14 (by decide) (by decide) ⟨rfl, f5_a⟩
theorem pn_1 : plainName "java/lang/String" = true := by first | (simp [plainName, overriddenIn]; done) | decide +kernel
theorem ef_rmVO (m : MethodId) (x0 : Int32) : entryFrame m #[(.int x0)] 1 = mkF m 0 #[.val (.int x0)] [] := by first | (simp [entryFrame, mkF, argsToLocals, Value.category]; done) | rfl
set_option maxRecDepth 65536 in
set_option maxHeartbeats 40000000 in
theorem rmVO (l : Launch) (Z : State) (a0 : Array Value) (hw : ∀ d ∈ tables_1, d.before a0 Z = true) (h0 : Heap) (n0 : Nat) (Z0 : n0 ≤ h0.size) (x cs : Int32) (hcs : ¬ cs = 0) (SC : Sta Z h0 "java/lang/String" "COMPACT_STRINGS" "Z" (.int cs)) (h1 : ¬ 255 < x) :
    KCt false l (⟨"java/lang/String", "valueOf", "(C)Ljava/lang/String;"⟩ : MethodName) jdk_42_method_139_code 1 (some (.object "java/lang/String")) ({ frames := 2, cells := 2, slots := 5, locals := 30 } : Room) Z n0 h0 #[(.int x)] [] (fun v h => ∃ (a b : Addr), v = some (.ref a) ∧ n0 ≤ a ∧ h0.size ≤ a ∧ KOb Z h a "java/lang/String" layS [.int 0, .ref b]) := by
  refine k_enter (tbl := tables_1) (a0 := a0) (Ls := #[.val (.int x)]) (plainFor_of_name pn_1) hw Z0 (fun m => ef_rmVO m x) ?_
  intro p e s m below meth c T C P
  refine k_gets (pc' := 3) C P (C.w 4 rfl) Via.refl SC d1_0 rfl ?_
  intro T6 P6
  refine k_ifN (pc' := 6) C P6 d1_3 hcs rfl ?_
  refine k_iloadN (pc' := 7) C P6 d1_6 rfl rfl ?_
  refine k_callT (pc' := 10) (cells' := 0) (slots' := 0) (W := 0) C P6 (C.w 5 rfl) (C.w 6 rfl) (C.w 8 rfl) (C.w 7 rfl) (by decide) (rmEnc l Z a0 hw _ n0 P6.size x h1) [(.int x)] [] rfl (lenOf pd_0 rfl) rfl (Nat.le_of_eq rfl) d1_7 rfl (by decide) (by decide) rfl rfl (by decide) (by decide) all0 rfl ?_
  intro T7 h7 v7 P7 K7 Q7
  obtain ⟨e7, g7⟩ := Q7
  subst g7
  subst e7
  show KGo p e below _ T7 m 10 #[.val (.int x)] [(.int (1 : Int32))]
  refine k_ifN (pc' := 13) C P7 d1_10 k_10 rfl ?_
  refine k_newo (pc' := 16) (cells' := 1) (slots' := 4) C P7 (C.w 9 rfl) (C.w 10 rfl) (C.w 2 rfl) d1_13 rfl rfl (by decide) (by decide) rfl ?_
  intro T8 h8 b8 P8 hs8 ge_b8 sz_b8 E8 A8 D8
  have f8_b8 : KOb Z h8 b8 "java/lang/String" layS [(.int (0 : Int32)), .null] := KOb.new A8 D8 (lokS C.hw) (by decide +kernel)
  refine k_dup (pc' := 17) C P8 d1_16 rfl rfl ?_
  refine k_iloadN (pc' := 18) C P8 d1_17 rfl rfl ?_
  refine k_callT (pc' := 21) (cells' := 2) (slots' := 5) (W := 2) C P8 (C.w 11 rfl) (C.w 12 rfl) (C.w 13 rfl) (C.w 7 rfl) (by decide) (rmTB l Z a0 hw _ n0 P8.size x) [(.int x)] [(.ref b8), (.ref b8)] rfl (lenOf pd_1 rfl) rfl (Nat.le_of_eq rfl) d1_18 rfl (by decide) (by decide) rfl rfl (by decide) (by decide) all0 rfl ?_
  intro T9 h9 v9 P9 K9 Q9
  obtain ⟨b9, rfl, gb9, zb9⟩ := Q9
  have f9_b8 := f8_b8.keep K9 nin0
  show KGo p e below _ T9 m 21 #[.val (.int x)] [(.ref b9), (.ref b8), (.ref b8)]
  refine k_iconst (z := (0 : Int32)) (pc' := 22) C P9 d1_21 rfl rfl ?_
  refine k_callN (pc' := 25) (cells' := 2) (slots' := 5) (W := 1) C P9 rfl (C.w 15 rfl) (C.w 16 rfl) (C.w 18 rfl) (C.w 2 rfl) (by decide) (rmSI l Z a0 hw _ n0 P9.size b8 b9 ge_b8 f9_b8) b8 [(.ref b9), (.int (0 : Int32))] [(.ref b8)] rfl (lenOf pd_2 rfl) rfl (Nat.le_of_eq rfl) d1_22 rfl (by decide) (by decide) rfl rfl (by decide) (by decide) (allS (Or.inr sz_b8) all0) rfl ?_
  intro T10 h10 v10 P10 K10 Q10
  obtain ⟨rfl, F10⟩ := Q10
  show KGo p e below _ T10 m 25 #[.val (.int x)] [(.ref b8)]
  exact k_retA C P10 d1_25 rfl rfl (by decide) (by decide) ⟨b8, _, rfl, ge_b8, sz_b8, F10⟩
theorem pn_6 : plainName "com/example/pactline/pactline/model/Service" = true := by first | (simp [plainName, overriddenIn]; done) | decide +kernel
theorem ef_rmSv (m : MethodId) (x0 : Addr) (x1 : Addr) (x2 : Addr) (x3 : Value) (q3 : x3.isRef = true) : entryFrame m #[(.ref x0), (.ref x1), (.ref x2), x3] 4 = mkF m 0 #[.val (.ref x0), .val (.ref x1), .val (.ref x2), .val x3] [] := by
  rcases ref_cases q3 with rfl | ⟨_, rfl⟩ <;>
  first | (simp [entryFrame, mkF, argsToLocals, Value.category]; done) | rfl
set_option maxRecDepth 65536 in
set_option maxHeartbeats 40000000 in
theorem rmSv (l : Launch) (Z : State) (a0 : Array Value) (hw : ∀ d ∈ tables_1, d.before a0 Z = true) (h0 : Heap) (n0 : Nat) (Z0 : n0 ≤ h0.size) (a i d : Addr) (u : Value) (hu : u.isRef = true) (ge_a : n0 ≤ a) (F : KOb Z h0 a "com/example/pactline/pactline/model/Service" layV [.null, .null, .null]) :
    KCt false l (⟨"com/example/pactline/pactline/model/Service", "<init>", "(Ljava/lang/String;[D[Ljava/lang/String;)V"⟩ : MethodName) prog_68_method_1_code 4 none ({ frames := 1, cells := 0, slots := 0, locals := 15 } : Room) Z n0 h0 #[(.ref a), (.ref i), (.ref d), u] [a] (fun v h => v = none ∧ KOb Z h a "com/example/pactline/pactline/model/Service" layV [.ref i, .ref d, u]) := by
  refine k_enter (tbl := tables_1) (a0 := a0) (Ls := #[.val (.ref a), .val (.ref i), .val (.ref d), .val u]) (plainFor_of_name pn_6) hw Z0 (fun m => ef_rmSv m a i d u hu) ?_
  intro p e s m below meth c T C P
  have sz_a : a ∈ [a] ∨ h0.size ≤ a := Or.inl (by simp)
  refine k_aloadN (pc' := 1) C P d6_0 rfl rfl rfl ?_
  refine k_initObj (pc' := 4) (W := 0) C P (C.w 40 rfl) (C.w 20 rfl) (C.w 21 rfl) d6_1 rfl (by decide) (by decide) (by decide) rfl ?_
  intro T11 P11
  refine k_aloadN (pc' := 5) C P11 d6_4 rfl rfl rfl ?_
  refine k_aloadN (pc' := 6) C P11 d6_5 rfl rfl rfl ?_
  refine k_putf (pc' := 9) (ty := (.object "java/lang/String")) (v' := (.ref i)) C P11 (C.w 41 rfl) Via.refl F 0 rfl (Or.inr ⟨(C.w 42 rfl), rfl, rfl⟩) (C.w 32 rfl) (by decide) rfl rfl d6_6 ge_a sz_a rfl ?_
  intro T12 h12 P12 W12
  have f12_a : KOb Z h12 a "com/example/pactline/pactline/model/Service" layV [(.ref i), .null, .null] := F.put (lokV C.hw) 0 rfl W12 rfl
  refine k_aloadN (pc' := 10) C P12 d6_9 rfl rfl rfl ?_
  refine k_aloadN (pc' := 11) C P12 d6_10 rfl rfl rfl ?_
  refine k_putf (pc' := 14) (ty := (.array .double)) (v' := (.ref d)) C P12 (C.w 43 rfl) Via.refl f12_a 1 rfl (Or.inr ⟨(C.w 44 rfl), rfl, rfl⟩) (C.w 32 rfl) (by decide) rfl rfl d6_11 ge_a sz_a rfl ?_
  intro T13 h13 P13 W13
  have f13_a : KOb Z h13 a "com/example/pactline/pactline/model/Service" layV [(.ref i), (.ref d), .null] := f12_a.put (lokV C.hw) 1 rfl W13 rfl
  refine k_aloadN (pc' := 15) C P13 d6_14 rfl rfl rfl ?_
  refine k_aloadN (pc' := 16) C P13 d6_15 rfl hu rfl ?_
  refine k_putf (pc' := 19) (ty := (.array (.object "java/lang/String"))) (v' := u) C P13 (C.w 45 rfl) Via.refl f13_a 2 rfl (Or.inr ⟨(C.w 46 rfl), rfl, rfl⟩) (C.w 32 rfl) (by decide) (k_narrow_ref hu) (k_fits_ref rfl hu) d6_16 ge_a sz_a rfl ?_
  intro T14 h14 P14 W14
  have f14_a : KOb Z h14 a "com/example/pactline/pactline/model/Service" layV [(.ref i), (.ref d), u] := f13_a.put (lokV C.hw) 2 rfl W14 rfl
  exact k_retV C P14 d6_19 (by decide) (by decide) ⟨rfl, f14_a⟩
theorem pn_7 : plainName "com/example/pactline/pactline/model/Service" = true := by first | (simp [plainName, overriddenIn]; done) | decide +kernel
theorem ef_rmT0 (m : MethodId) (x0 : Addr) (x1 : Int32) : entryFrame m #[(.ref x0), (.int x1)] 2 = mkF m 0 #[.val (.ref x0), .val (.int x1)] [] := by first | (simp [entryFrame, mkF, argsToLocals, Value.category]; done) | rfl
set_option maxRecDepth 65536 in
set_option maxHeartbeats 40000000 in
theorem rmT0 (l : Launch) (Z : State) (a0 : Array Value) (hw : ∀ d ∈ tables_1, d.before a0 Z = true) (h0 : Heap) (n0 : Nat) (Z0 : n0 ≤ h0.size) (a i d : Addr) (x : Int32) (F : KOb Z h0 a "com/example/pactline/pactline/model/Service" layV [.ref i, .ref d, .null]) :
    KCt false l (⟨"com/example/pactline/pactline/model/Service", "toldApart", "(I)Z"⟩ : MethodName) prog_68_method_5_code 2 (some .boolean) ({ frames := 0, cells := 0, slots := 0, locals := 0 } : Room) Z n0 h0 #[(.ref a), (.int x)] [] (fun v h => v = some (.int 1) ∧ h0 = h) := by
  refine k_enter (tbl := tables_1) (a0 := a0) (Ls := #[.val (.ref a), .val (.int x)]) (plainFor_of_name pn_7) hw Z0 (fun m => ef_rmT0 m a x) ?_
  intro p e s m below meth c T C P
  refine k_aloadN (pc' := 1) C P d7_0 rfl rfl rfl ?_
  refine k_getf (pc' := 4) C P (C.w 45 rfl) Via.refl F 2 rfl rfl d7_1 rfl ?_
  intro T15 P15
  refine k_nullY (pc' := 16) C P15 d7_4 (by decide) (by decide) ?_
  refine k_iconst (z := (1 : Int32)) (pc' := 17) C P15 d7_16 rfl rfl ?_
  refine k_goto (pc' := 21) C P15 d7_17 (by decide) (by decide) ?_
  exact k_retZ (z' := (1 : Int32)) C P15 (by simp) d7_21 rfl (by decide) (by decide) ⟨rfl, rfl⟩
theorem ef_rmT1 (m : MethodId) (x0 : Addr) (x1 : Int32) : entryFrame m #[(.ref x0), (.int x1)] 2 = mkF m 0 #[.val (.ref x0), .val (.int x1)] [] := by first | (simp [entryFrame, mkF, argsToLocals, Value.category]; done) | rfl
set_option maxRecDepth 65536 in
set_option maxHeartbeats 40000000 in
theorem rmT1 (l : Launch) (Z : State) (a0 : Array Value) (hw : ∀ d ∈ tables_1, d.before a0 Z = true) (h0 : Heap) (n0 : Nat) (Z0 : n0 ≤ h0.size) (a i d u : Addr) (x : Int32) (J : Nat) (hj : x.toInt = (J : Int)) (hJ : J < 3) (kk : ClassId) (f : Nat → Value) (F : KOb Z h0 a "com/example/pactline/pactline/model/Service" layV [.ref i, .ref d, .ref u]) (V : KVA Z h0 u kk (.object "java/lang/String") 3 f) (ev : f J = .null) :
    KCt false l (⟨"com/example/pactline/pactline/model/Service", "toldApart", "(I)Z"⟩ : MethodName) prog_68_method_5_code 2 (some .boolean) ({ frames := 0, cells := 0, slots := 0, locals := 0 } : Room) Z n0 h0 #[(.ref a), (.int x)] [] (fun v h => v = some (.int 1) ∧ h0 = h) := by
  refine k_enter (tbl := tables_1) (a0 := a0) (Ls := #[.val (.ref a), .val (.int x)]) (plainFor_of_name pn_7) hw Z0 (fun m => ef_rmT1 m a x) ?_
  intro p e s m below meth c T C P
  refine k_aloadN (pc' := 1) C P d7_0 rfl rfl rfl ?_
  refine k_getf (pc' := 4) C P (C.w 45 rfl) Via.refl F 2 rfl rfl d7_1 rfl ?_
  intro T16 P16
  refine k_nullN (pc' := 7) C P16 d7_4 rfl ?_
  refine k_aloadN (pc' := 8) C P16 d7_7 rfl rfl rfl ?_
  refine k_getf (pc' := 11) C P16 (C.w 45 rfl) Via.refl F 2 rfl rfl d7_8 rfl ?_
  intro T17 P17
  refine k_iloadN (pc' := 12) C P17 d7_11 rfl rfl ?_
  refine k_aaload (J := J) (v := .null) (pc' := 13) C P17 V rfl d7_12 hj hJ ev rfl ?_
  refine k_nonnullN (pc' := 16) C P17 d7_13 rfl ?_
  refine k_iconst (z := (1 : Int32)) (pc' := 17) C P17 d7_16 rfl rfl ?_
  refine k_goto (pc' := 21) C P17 d7_17 (by decide) (by decide) ?_
  exact k_retZ (z' := (1 : Int32)) C P17 (by simp) d7_21 rfl (by decide) (by decide) ⟨rfl, rfl⟩
theorem ef_rmT2 (m : MethodId) (x0 : Addr) (x1 : Int32) : entryFrame m #[(.ref x0), (.int x1)] 2 = mkF m 0 #[.val (.ref x0), .val (.int x1)] [] := by first | (simp [entryFrame, mkF, argsToLocals, Value.category]; done) | rfl
set_option maxRecDepth 65536 in
set_option maxHeartbeats 40000000 in
theorem rmT2 (l : Launch) (Z : State) (a0 : Array Value) (hw : ∀ d ∈ tables_1, d.before a0 Z = true) (h0 : Heap) (n0 : Nat) (Z0 : n0 ≤ h0.size) (a i d u : Addr) (x : Int32) (J : Nat) (hj : x.toInt = (J : Int)) (hJ : J < 3) (kk : ClassId) (f : Nat → Value) (F : KOb Z h0 a "com/example/pactline/pactline/model/Service" layV [.ref i, .ref d, .ref u]) (V : KVA Z h0 u kk (.object "java/lang/String") 3 f) (b : Addr) (ev : f J = .ref b) :
    KCt false l (⟨"com/example/pactline/pactline/model/Service", "toldApart", "(I)Z"⟩ : MethodName) prog_68_method_5_code 2 (some .boolean) ({ frames := 0, cells := 0, slots := 0, locals := 0 } : Room) Z n0 h0 #[(.ref a), (.int x)] [] (fun v h => v = some (.int 0) ∧ h0 = h) := by
  refine k_enter (tbl := tables_1) (a0 := a0) (Ls := #[.val (.ref a), .val (.int x)]) (plainFor_of_name pn_7) hw Z0 (fun m => ef_rmT2 m a x) ?_
  intro p e s m below meth c T C P
  refine k_aloadN (pc' := 1) C P d7_0 rfl rfl rfl ?_
  refine k_getf (pc' := 4) C P (C.w 45 rfl) Via.refl F 2 rfl rfl d7_1 rfl ?_
  intro T18 P18
  refine k_nullN (pc' := 7) C P18 d7_4 rfl ?_
  refine k_aloadN (pc' := 8) C P18 d7_7 rfl rfl rfl ?_
  refine k_getf (pc' := 11) C P18 (C.w 45 rfl) Via.refl F 2 rfl rfl d7_8 rfl ?_
  intro T19 P19
  refine k_iloadN (pc' := 12) C P19 d7_11 rfl rfl ?_
  refine k_aaload (J := J) (v := (.ref b)) (pc' := 13) C P19 V rfl d7_12 hj hJ ev rfl ?_
  refine k_nonnullY (pc' := 20) C P19 d7_13 (by decide) (by decide) ?_
  refine k_iconst (z := (0 : Int32)) (pc' := 21) C P19 d7_20 rfl rfl ?_
  exact k_retZ (z' := (0 : Int32)) C P19 (by simp) d7_21 rfl (by decide) (by decide) ⟨rfl, rfl⟩
theorem pn_0 : plainName "com/example/pactline/pactline/model/ServiceToldApartPinLaw" = true := by first | (simp [plainName, overriddenIn]; done) | decide +kernel
theorem ef_rm0 (m : MethodId) (x0 : Int32) (x1 : Int32) (x2 : Int32) : entryFrame m #[(.int x0), (.int x1), (.int x2)] maxLocals = mkF m 0 #[.val (.int x0), .val (.int x1), .val (.int x2), .unset, .unset, .unset, .unset, .unset, .unset, .unset, .unset, .unset, .unset] [] := by first | (simp [entryFrame, mkF, argsToLocals, Value.category, maxLocals]; done) | rfl
set_option maxRecDepth 65536 in
set_option maxHeartbeats 40000000 in
theorem rm0 (l : Launch) (Z : State) (a0 : Array Value) (hw : ∀ d ∈ tables_1, d.before a0 Z = true) (h0 : Heap) (n0 : Nat) (Z0 : n0 ≤ h0.size) (p0 p1 p2 : Int32) (cs : Int32) (hcs : ¬ cs = 0) (SC : Sta Z h0 "java/lang/String" "COMPACT_STRINGS" "Z" (.int cs)) :
    KCt true l x code maxLocals ret room_1 Z n0 h0 #[(.int p0), (.int p1), (.int p2)] [] (fun v h => v = some (.int 1)) := by
  refine k_enter (tbl := tables_1) (a0 := a0) (Ls := #[.val (.int p0), .val (.int p1), .val (.int p2), .unset, .unset, .unset, .unset, .unset, .unset, .unset, .unset, .unset, .unset]) (plainFor_of_name pn_0) hw Z0 (fun m => ef_rm0 m p0 p1 p2) ?_
  intro p e s m below meth c T C P
  refine k_iloadN (pc' := 1) C P at_0 rfl rfl ?_
  refine k_iconst (z := (1 : Int32)) (pc' := 2) C P at_1 rfl rfl ?_
  refine k_iand (pc' := 3) C P at_2 rfl ?_
  refine k_ternIf (Pp := (p0 &&& (1 : Int32)) = (0 : Int32)) (vY := (0 : Int32)) (vN := (1 : Int32)) (p1 := 6) (p2 := 7) (p3 := 10) (p4 := 11) C P at_3 at_6 at_7 at_10 rfl rfl (by decide) (by decide) rfl rfl rfl rfl (fun q => q) (fun q => q) ?_
  obtain ⟨m3, e_m3⟩ : ∃ z, z = (if (p0 &&& (1 : Int32)) = (0 : Int32) then (0 : Int32) else (1 : Int32)) := ⟨_, rfl⟩
  rw [← e_m3]
  have h_m3 : m3 = 0 ∨ m3 = 1 := by rw [e_m3]; exact own_01 _
  clear e_m3
  refine k_istoreN (l' := #[.val (.int p0), .val (.int p1), .val (.int p2), .val (.int m3), .unset, .unset, .unset, .unset, .unset, .unset, .unset, .unset, .unset]) (pc' := 12) C P at_11 rfl rfl ?_
  refine k_iloadN (pc' := 13) C P at_12 rfl rfl ?_
  refine k_iconst (z := (2 : Int32)) (pc' := 14) C P at_13 rfl rfl ?_
  refine k_iand (pc' := 15) C P at_14 rfl ?_
  refine k_ternIf (Pp := (p0 &&& (2 : Int32)) = (0 : Int32)) (vY := (0 : Int32)) (vN := (1 : Int32)) (p1 := 18) (p2 := 19) (p3 := 22) (p4 := 23) C P at_15 at_18 at_19 at_22 rfl rfl (by decide) (by decide) rfl rfl rfl rfl (fun q => q) (fun q => q) ?_
  obtain ⟨m4, e_m4⟩ : ∃ z, z = (if (p0 &&& (2 : Int32)) = (0 : Int32) then (0 : Int32) else (1 : Int32)) := ⟨_, rfl⟩
  rw [← e_m4]
  have h_m4 : m4 = 0 ∨ m4 = 1 := by rw [e_m4]; exact own_01 _
  clear e_m4
  refine k_istore (l' := #[.val (.int p0), .val (.int p1), .val (.int p2), .val (.int m3), .val (.int m4), .unset, .unset, .unset, .unset, .unset, .unset, .unset, .unset]) (pc' := 25) C P at_23 rfl rfl ?_
  refine k_iloadN (pc' := 26) C P at_25 rfl rfl ?_
  refine k_iconst (z := (4 : Int32)) (pc' := 27) C P at_26 rfl rfl ?_
  refine k_iand (pc' := 28) C P at_27 rfl ?_
  refine k_ternIf (Pp := (p0 &&& (4 : Int32)) = (0 : Int32)) (vY := (0 : Int32)) (vN := (1 : Int32)) (p1 := 31) (p2 := 32) (p3 := 35) (p4 := 36) C P at_28 at_31 at_32 at_35 rfl rfl (by decide) (by decide) rfl rfl rfl rfl (fun q => q) (fun q => q) ?_
  obtain ⟨m5, e_m5⟩ : ∃ z, z = (if (p0 &&& (4 : Int32)) = (0 : Int32) then (0 : Int32) else (1 : Int32)) := ⟨_, rfl⟩
  rw [← e_m5]
  have h_m5 : m5 = 0 ∨ m5 = 1 := by rw [e_m5]; exact own_01 _
  clear e_m5
  refine k_istore (l' := #[.val (.int p0), .val (.int p1), .val (.int p2), .val (.int m3), .val (.int m4), .val (.int m5), .unset, .unset, .unset, .unset, .unset, .unset, .unset]) (pc' := 38) C P at_36 rfl rfl ?_
  refine k_iloadN (pc' := 39) C P at_38 rfl rfl ?_
  refine k_bipush (z := (8 : Int32)) (pc' := 41) C P at_39 rfl rfl ?_
  refine k_iand (pc' := 42) C P at_41 rfl ?_
  refine k_ternIf (Pp := (p0 &&& (8 : Int32)) = (0 : Int32)) (vY := (0 : Int32)) (vN := (1 : Int32)) (p1 := 45) (p2 := 46) (p3 := 49) (p4 := 50) C P at_42 at_45 at_46 at_49 rfl rfl (by decide) (by decide) rfl rfl rfl rfl (fun q => q) (fun q => q) ?_
  obtain ⟨m6, e_m6⟩ : ∃ z, z = (if (p0 &&& (8 : Int32)) = (0 : Int32) then (0 : Int32) else (1 : Int32)) := ⟨_, rfl⟩
  rw [← e_m6]
  have h_m6 : m6 = 0 ∨ m6 = 1 := by rw [e_m6]; exact own_01 _
  clear e_m6
  refine k_istore (l' := #[.val (.int p0), .val (.int p1), .val (.int p2), .val (.int m3), .val (.int m4), .val (.int m5), .val (.int m6), .unset, .unset, .unset, .unset, .unset, .unset]) (pc' := 52) C P at_50 rfl rfl ?_
  refine k_iloadN (pc' := 53) C P at_52 rfl rfl ?_
  refine k_sipush (z := (255 : Int32)) (pc' := 56) C P at_53 rfl rfl ?_
  refine k_iand (pc' := 57) C P at_56 rfl ?_
  refine k_i2c (pc' := 58) C P at_57 rfl ?_
  have hx : ¬ (255 : Int32) < ((p2 &&& (255 : Int32)).toUInt32.toUInt16.toUInt32.toInt32) := own_255 _
  refine k_callT (pc' := 61) (cells' := 2) (slots' := 5) (W := 0) C P (C.w 0 rfl) (C.w 1 rfl) (C.w 3 rfl) (C.w 2 rfl) (by decide) (rmVO l Z a0 hw _ n0 P.size ((p2 &&& (255 : Int32)).toUInt32.toUInt16.toUInt32.toInt32) cs hcs SC hx) [(.int ((p2 &&& (255 : Int32)).toUInt32.toUInt16.toUInt32.toInt32))] [] rfl (lenOf pd_3 rfl) rfl (Nat.le_of_eq rfl) at_58 rfl (by decide) (by decide) rfl rfl (by decide) (by decide) all0 rfl ?_
  intro T20 h20 v20 P20 K20 Q20
  obtain ⟨sa20, ba20, rfl, gs20, zs20, F20⟩ := Q20
  show KGo p e below _ T20 m 61 #[.val (.int p0), .val (.int p1), .val (.int p2), .val (.int m3), .val (.int m4), .val (.int m5), .val (.int m6), .unset, .unset, .unset, .unset, .unset, .unset] [(.ref sa20)]
  refine k_astore (l' := #[.val (.int p0), .val (.int p1), .val (.int p2), .val (.int m3), .val (.int m4), .val (.int m5), .val (.int m6), .val (.ref sa20), .unset, .unset, .unset, .unset, .unset]) (pc' := 63) C P20 at_61 rfl rfl rfl ?_
  refine k_aconstNull (pc' := 64) C P20 at_63 rfl ?_
  refine k_astore (l' := #[.val (.int p0), .val (.int p1), .val (.int p2), .val (.int m3), .val (.int m4), .val (.int m5), .val (.int m6), .val (.ref sa20), .val .null, .unset, .unset, .unset, .unset]) (pc' := 66) C P20 at_64 rfl rfl rfl ?_
  rcases h_m3 with rfl | rfl
  · skip
    refine k_iloadN (pc' := 67) C P20 at_66 rfl rfl ?_
    refine k_ifN (pc' := 70) C P20 at_67 k_01 rfl ?_
    refine k_iconst (z := (3 : Int32)) (pc' := 71) C P20 at_70 rfl rfl ?_
    refine k_newr (pc' := 74) (cells' := 3) (slots' := 8) (N := 3) (cap := 3) C P20 (C.w 26 rfl) (C.w 27 rfl) at_71 rfl (by decide) (by decide) rfl rfl (by decide) (by decide) rfl ?_
    intro T21 h21 b21 k21 P21 hs21 ge_b21 sz_b21 E21 V21 O21
    have ne_sa20_b21 : sa20 ≠ b21 := Nat.ne_of_lt (hs21 ▸ F20.lt)
    have f21_sa20 := F20.ext E21
    refine k_astore (l' := #[.val (.int p0), .val (.int p1), .val (.int p2), .val (.int (0 : Int32)), .val (.int m4), .val (.int m5), .val (.int m6), .val (.ref sa20), .val (.ref b21), .unset, .unset, .unset, .unset]) (pc' := 76) C P21 at_74 rfl rfl rfl ?_
    refine k_aload (pc' := 78) C P21 at_76 rfl rfl rfl ?_
    refine k_iconst (z := (0 : Int32)) (pc' := 79) C P21 at_78 rfl rfl ?_
    rcases h_m4 with rfl | rfl
    · skip
      refine k_iload (pc' := 81) C P21 at_79 rfl rfl ?_
      refine k_ifY (pc' := 88) C P21 at_81 k_01 (by decide) (by decide) ?_
      refine k_aload (pc' := 90) C P21 at_88 rfl rfl rfl ?_
      refine k_aastore (J := 0) (g' := (fun i => if i = 0 then Value.ref sa20 else if i = 1 then Value.null else Value.null)) (pc' := 91) C P21 V21 rfl (V21.sto (K1 := "") O21 (Ins.self f21_sa20.exa)) at_90 rfl (by decide) (fun i hi => by match i, hi with | 0, _ => rfl | 1, _ => rfl | 2, _ => rfl) ge_b21 (Or.inr sz_b21) rfl ?_
      intro T22 h22 P22 W22 V22
      have f22_sa20 := f21_sa20.other W22 ne_sa20_b21
      refine k_aload (pc' := 93) C P22 at_91 rfl rfl rfl ?_
      refine k_iconst (z := (1 : Int32)) (pc' := 94) C P22 at_93 rfl rfl ?_
      rcases h_m5 with rfl | rfl
      · skip
        refine k_iload (pc' := 96) C P22 at_94 rfl rfl ?_
        refine k_ifY (pc' := 103) C P22 at_96 k_01 (by decide) (by decide) ?_
        refine k_aload (pc' := 105) C P22 at_103 rfl rfl rfl ?_
        refine k_aastore (J := 1) (g' := (fun i => if i = 0 then Value.ref sa20 else if i = 1 then Value.ref sa20 else Value.null)) (pc' := 106) C P22 V22 rfl (V22.sto (K1 := "") O21 (Ins.self f22_sa20.exa)) at_105 rfl (by decide) (fun i hi => by match i, hi with | 0, _ => rfl | 1, _ => rfl | 2, _ => rfl) ge_b21 (Or.inr sz_b21) rfl ?_
        intro T23 h23 P23 W23 V23
        have f23_sa20 := f22_sa20.other W23 ne_sa20_b21
        refine k_aload (pc' := 108) C P23 at_106 rfl rfl rfl ?_
        refine k_iconst (z := (2 : Int32)) (pc' := 109) C P23 at_108 rfl rfl ?_
        rcases h_m6 with rfl | rfl
        · skip
          refine k_iload (pc' := 111) C P23 at_109 rfl rfl ?_
          refine k_ifY (pc' := 118) C P23 at_111 k_01 (by decide) (by decide) ?_
          refine k_aload (pc' := 120) C P23 at_118 rfl rfl rfl ?_
          refine k_aastore (J := 2) (g' := (fun i => if i = 0 then Value.ref sa20 else if i = 1 then Value.ref sa20 else Value.ref sa20)) (pc' := 121) C P23 V23 rfl (V23.sto (K1 := "") O21 (Ins.self f23_sa20.exa)) at_120 rfl (by decide) (fun i hi => by match i, hi with | 0, _ => rfl | 1, _ => rfl | 2, _ => rfl) ge_b21 (Or.inr sz_b21) rfl ?_
          intro T24 h24 P24 W24 V24
          have f24_sa20 := f23_sa20.other W24 ne_sa20_b21
          refine k_iconst (z := (3 : Int32)) (pc' := 122) C P24 at_121 rfl rfl ?_
          refine k_newp (pc' := 124) (cells' := 4) (slots' := 11) (N := 3) (cap := 3) C P24 (C.w 28 rfl) at_122 rfl (by decide) (by decide) rfl rfl (by decide) (by decide) rfl ?_
          intro T25 h25 b25 k25 P25 hs25 ge_b25 sz_b25 E25 V25
          have ne_sa20_b25 : sa20 ≠ b25 := Nat.ne_of_lt (hs25 ▸ f24_sa20.lt)
          have ne_b21_b25 : b21 ≠ b25 := Nat.ne_of_lt (hs25 ▸ V24.lt)
          have f25_sa20 := f24_sa20.ext E25
          have f25_b21 := V24.ext E25
          refine k_astore (l' := #[.val (.int p0), .val (.int p1), .val (.int p2), .val (.int (0 : Int32)), .val (.int (0 : Int32)), .val (.int (0 : Int32)), .val (.int (0 : Int32)), .val (.ref sa20), .val (.ref b21), .val (.ref b25), .unset, .unset, .unset]) (pc' := 126) C P25 at_124 rfl rfl rfl ?_
          refine k_aload (pc' := 128) C P25 at_126 rfl rfl rfl ?_
          refine k_iconst (z := (0 : Int32)) (pc' := 129) C P25 at_128 rfl rfl ?_
          refine k_dconst0 (z := (0 : UInt64)) (pc' := 130) C P25 at_129 rfl rfl ?_
          refine k_dastore (J := 0) (g' := (fun i => .double (if i = 0 then (0 : UInt64) else if i = 1 then 0 else 0))) (pc' := 131) C P25 V25 at_130 rfl (by decide) (fun i hi => by match i, hi with | 0, _ => rfl | 1, _ => rfl | 2, _ => rfl) ge_b25 (Or.inr sz_b25) rfl ?_
          intro T26 h26 P26 W26 V26
          have f26_sa20 := f25_sa20.other W26 ne_sa20_b25
          have f26_b21 := f25_b21.other W26 ne_b21_b25
          refine k_aload (pc' := 133) C P26 at_131 rfl rfl rfl ?_
          refine k_iconst (z := (1 : Int32)) (pc' := 134) C P26 at_133 rfl rfl ?_
          refine k_dconst1 (z := (4607182418800017408 : UInt64)) (pc' := 135) C P26 at_134 rfl rfl ?_
          refine k_dastore (J := 1) (g' := (fun i => .double (if i = 0 then (0 : UInt64) else if i = 1 then (4607182418800017408 : UInt64) else 0))) (pc' := 136) C P26 V26 at_135 rfl (by decide) (fun i hi => by match i, hi with | 0, _ => rfl | 1, _ => rfl | 2, _ => rfl) ge_b25 (Or.inr sz_b25) rfl ?_
          intro T27 h27 P27 W27 V27
          have f27_sa20 := f26_sa20.other W27 ne_sa20_b25
          have f27_b21 := f26_b21.other W27 ne_b21_b25
          refine k_aload (pc' := 138) C P27 at_136 rfl rfl rfl ?_
          refine k_iconst (z := (2 : Int32)) (pc' := 139) C P27 at_138 rfl rfl ?_
          refine k_ldc2D (pc' := 142) C P27 (C.w 29 rfl) at_139 rfl ?_
          refine k_dastore (J := 2) (g' := (fun i => .double (if i = 0 then (0 : UInt64) else if i = 1 then (4607182418800017408 : UInt64) else (4611686018427387904 : UInt64)))) (pc' := 143) C P27 V27 at_142 rfl (by decide) (fun i hi => by match i, hi with | 0, _ => rfl | 1, _ => rfl | 2, _ => rfl) ge_b25 (Or.inr sz_b25) rfl ?_
          intro T28 h28 P28 W28 V28
          have f28_sa20 := f27_sa20.other W28 ne_sa20_b25
          have f28_b21 := f27_b21.other W28 ne_b21_b25
          refine k_iloadN (pc' := 144) C P28 at_143 rfl rfl ?_
          refine k_ldcI (pc' := 146) C P28 (C.w 30 rfl) at_144 rfl ?_
          refine k_iand (pc' := 147) C P28 at_146 rfl ?_
          refine k_iconst (z := (3 : Int32)) (pc' := 148) C P28 at_147 rfl rfl ?_
          refine k_irem (pc' := 149) C P28 at_148 (by decide) rfl ?_
          obtain ⟨y, e_y⟩ : ∃ z, z = ((p1 &&& (2147483647 : Int32)) % (3 : Int32)) := ⟨_, rfl⟩
          rw [← e_y]
          obtain ⟨Y, hY, hY3⟩ : ∃ Y : Nat, y.toInt = (Y : Int) ∧ Y < 3 := by rw [e_y]; exact own_q p1
          refine k_istore (l' := #[.val (.int p0), .val (.int p1), .val (.int p2), .val (.int (0 : Int32)), .val (.int (0 : Int32)), .val (.int (0 : Int32)), .val (.int (0 : Int32)), .val (.ref sa20), .val (.ref b21), .val (.ref b25), .val (.int y), .unset, .unset]) (pc' := 151) C P28 at_149 rfl rfl ?_
          refine k_newo (pc' := 154) (cells' := 5) (slots' := 14) C P28 (C.w 31 rfl) (C.w 32 rfl) (C.w 33 rfl) at_151 rfl rfl (by decide) (by decide) rfl ?_
          intro T29 h29 b29 P29 hs29 ge_b29 sz_b29 E29 A29 D29
          have ne_sa20_b29 : sa20 ≠ b29 := Nat.ne_of_lt (hs29 ▸ f28_sa20.lt)
          have ne_b21_b29 : b21 ≠ b29 := Nat.ne_of_lt (hs29 ▸ f28_b21.lt)
          have ne_b25_b29 : b25 ≠ b29 := Nat.ne_of_lt (hs29 ▸ V28.lt)
          have f29_sa20 := f28_sa20.ext E29
          have f29_b21 := f28_b21.ext E29
          have f29_b25 := V28.ext E29
          have f29_b29 : KOb Z h29 b29 "com/example/pactline/pactline/model/Service" layV [.null, .null, .null] := KOb.new A29 D29 (lokV C.hw) (by decide +kernel)
          refine k_dup (pc' := 155) C P29 at_154 rfl rfl ?_
          refine k_ldcS (pc' := 157) (n := 4) (cells' := 7) (slots' := 22) C P29 (C.w 34 rfl) (own_sa C.hw) at_155 (by decide) (by decide) rfl rfl (by decide) (by decide) rfl ?_
          intro T30 h30 b30 P30 E30
          have f30_sa20 := f29_sa20.ext E30
          have f30_b21 := f29_b21.ext E30
          have f30_b25 := f29_b25.ext E30
          have f30_b29 := f29_b29.ext E30
          refine k_aload (pc' := 159) C P30 at_157 rfl rfl rfl ?_
          refine k_aload (pc' := 161) C P30 at_159 rfl rfl rfl ?_
          refine k_callN (pc' := 164) (cells' := 7) (slots' := 22) (W := 1) C P30 rfl (C.w 37 rfl) (C.w 38 rfl) (C.w 39 rfl) (C.w 33 rfl) (by decide) (rmSv l Z a0 hw _ n0 P30.size b29 b30 b25 (.ref b21) rfl ge_b29 f30_b29) b29 [(.ref b30), (.ref b25), (.ref b21)] [(.ref b29)] rfl (lenOf pd_4 rfl) rfl (Nat.le_of_eq rfl) at_161 rfl (by decide) (by decide) rfl rfl (by decide) (by decide) (allS (Or.inr sz_b29) all0) rfl ?_
          intro T31 h31 v31 P31 K31 Q31
          obtain ⟨rfl, F31⟩ := Q31
          have f31_sa20 := f30_sa20.keep K31 (ninS ne_sa20_b29 nin0)
          have f31_b21 := f30_b21.keep K31 (ninS ne_b21_b29 nin0)
          have f31_b25 := f30_b25.keep K31 (ninS ne_b25_b29 nin0)
          show KGo p e below _ T31 m 164 #[.val (.int p0), .val (.int p1), .val (.int p2), .val (.int (0 : Int32)), .val (.int (0 : Int32)), .val (.int (0 : Int32)), .val (.int (0 : Int32)), .val (.ref sa20), .val (.ref b21), .val (.ref b25), .val (.int y), .unset, .unset] [(.ref b29)]
          refine k_astore (l' := #[.val (.int p0), .val (.int p1), .val (.int p2), .val (.int (0 : Int32)), .val (.int (0 : Int32)), .val (.int (0 : Int32)), .val (.int (0 : Int32)), .val (.ref sa20), .val (.ref b21), .val (.ref b25), .val (.int y), .val (.ref b29), .unset]) (pc' := 166) C P31 at_164 rfl rfl rfl ?_
          refine k_iloadN (pc' := 167) C P31 at_166 rfl rfl ?_
          refine k_ifY (pc' := 176) C P31 at_167 k_01 (by decide) (by decide) ?_
          refine k_iload (pc' := 178) C P31 at_176 rfl rfl ?_
          refine k_ifB (pcY := 188) (pcN := 181) C P31 at_178 (by decide) (by decide) rfl ?_ ?_
          · intro (hc178 : ¬ y = (0 : Int32))
            refine k_iload (pc' := 190) C P31 at_188 rfl rfl ?_
            refine k_iconst (z := (1 : Int32)) (pc' := 191) C P31 at_190 rfl rfl ?_
            refine k_icB (pcY := 201) (pcN := 194) C P31 at_191 (by decide) (by decide) rfl ?_ ?_
            · intro (hc191 : ¬ y = (1 : Int32))
              have hYe : y.toInt = ((2 : Nat) : Int) := own_two hY hY3 hc178 hc191
              refine k_iload (pc' := 203) C P31 at_201 rfl rfl ?_
              refine k_istore (l' := #[.val (.int p0), .val (.int p1), .val (.int p2), .val (.int (0 : Int32)), .val (.int (0 : Int32)), .val (.int (0 : Int32)), .val (.int (0 : Int32)), .val (.ref sa20), .val (.ref b21), .val (.ref b25), .val (.int y), .val (.ref b29), .val (.int (0 : Int32))]) (pc' := 205) C P31 at_203 rfl rfl ?_
              refine k_aload (pc' := 207) C P31 at_205 rfl rfl rfl ?_
              refine k_iload (pc' := 209) C P31 at_207 rfl rfl ?_
              refine k_callV (pc' := 212) (cells' := 7) (slots' := 22) (W := 0) C P31 (C.w 47 rfl) (C.w 48 rfl) (fun _ q => notFace_of_selects (args := #[]) (mvT q (C.w 50 rfl))) (C.w 50 rfl) (C.w 49 rfl) (C.w 51 rfl) (C.w 33 rfl) (by decide) (rmT2 l Z a0 hw _ n0 P31.size b29 b30 b25 b21 y 2 hYe (by decide) k21 (fun i => if i = 0 then Value.ref sa20 else if i = 1 then Value.ref sa20 else Value.ref sa20) F31 f31_b21 sa20 rfl) F31.exa [(.int y)] [] rfl (lenOf pd_5 rfl) rfl (Nat.le_of_eq rfl) at_209 rfl (by decide) (by decide) rfl rfl (by decide) (by decide) all0 rfl ?_
              intro T32 h32 v32 P32 K32 Q32
              obtain ⟨e32, g32⟩ := Q32
              subst g32
              subst e32
              show KGo p e below _ T32 m 212 #[.val (.int p0), .val (.int p1), .val (.int p2), .val (.int (0 : Int32)), .val (.int (0 : Int32)), .val (.int (0 : Int32)), .val (.int (0 : Int32)), .val (.ref sa20), .val (.ref b21), .val (.ref b25), .val (.int y), .val (.ref b29), .val (.int (0 : Int32))] [(.int (0 : Int32))]
              refine k_iload (pc' := 214) C P32 at_212 rfl rfl ?_
              refine k_icN (pc' := 217) C P32 at_214 (rfl : (_ : Int32) = _) rfl ?_
              refine k_iconst (z := (1 : Int32)) (pc' := 218) C P32 at_217 rfl rfl ?_
              refine k_goto (pc' := 222) C P32 at_218 (by decide) (by decide) ?_
              exact k_retZ (z' := (1 : Int32)) C P32 (by simp) at_222 rfl (by decide) (by decide) rfl
            · intro (hc191 : y = (1 : Int32))
              have hYe : y.toInt = ((1 : Nat) : Int) := by rw [hc191]; rfl
              refine k_iload (pc' := 196) C P31 at_194 rfl rfl ?_
              refine k_istore (l' := #[.val (.int p0), .val (.int p1), .val (.int p2), .val (.int (0 : Int32)), .val (.int (0 : Int32)), .val (.int (0 : Int32)), .val (.int (0 : Int32)), .val (.ref sa20), .val (.ref b21), .val (.ref b25), .val (.int y), .val (.ref b29), .val (.int (0 : Int32))]) (pc' := 198) C P31 at_196 rfl rfl ?_
              refine k_goto (pc' := 205) C P31 at_198 (by decide) (by decide) ?_
              refine k_aload (pc' := 207) C P31 at_205 rfl rfl rfl ?_
              refine k_iload (pc' := 209) C P31 at_207 rfl rfl ?_
              refine k_callV (pc' := 212) (cells' := 7) (slots' := 22) (W := 0) C P31 (C.w 47 rfl) (C.w 48 rfl) (fun _ q => notFace_of_selects (args := #[]) (mvT q (C.w 50 rfl))) (C.w 50 rfl) (C.w 49 rfl) (C.w 51 rfl) (C.w 33 rfl) (by decide) (rmT2 l Z a0 hw _ n0 P31.size b29 b30 b25 b21 y 1 hYe (by decide) k21 (fun i => if i = 0 then Value.ref sa20 else if i = 1 then Value.ref sa20 else Value.ref sa20) F31 f31_b21 sa20 rfl) F31.exa [(.int y)] [] rfl (lenOf pd_5 rfl) rfl (Nat.le_of_eq rfl) at_209 rfl (by decide) (by decide) rfl rfl (by decide) (by decide) all0 rfl ?_
              intro T33 h33 v33 P33 K33 Q33
              obtain ⟨e33, g33⟩ := Q33
              subst g33
              subst e33
              show KGo p e below _ T33 m 212 #[.val (.int p0), .val (.int p1), .val (.int p2), .val (.int (0 : Int32)), .val (.int (0 : Int32)), .val (.int (0 : Int32)), .val (.int (0 : Int32)), .val (.ref sa20), .val (.ref b21), .val (.ref b25), .val (.int y), .val (.ref b29), .val (.int (0 : Int32))] [(.int (0 : Int32))]
              refine k_iload (pc' := 214) C P33 at_212 rfl rfl ?_
              refine k_icN (pc' := 217) C P33 at_214 (rfl : (_ : Int32) = _) rfl ?_
              refine k_iconst (z := (1 : Int32)) (pc' := 218) C P33 at_217 rfl rfl ?_
              refine k_goto (pc' := 222) C P33 at_218 (by decide) (by decide) ?_
              exact k_retZ (z' := (1 : Int32)) C P33 (by simp) at_222 rfl (by decide) (by decide) rfl
          · intro (hc178 : y = (0 : Int32))
            have hYe : y.toInt = ((0 : Nat) : Int) := by rw [hc178]; rfl
            refine k_iload (pc' := 183) C P31 at_181 rfl rfl ?_
            refine k_istore (l' := #[.val (.int p0), .val (.int p1), .val (.int p2), .val (.int (0 : Int32)), .val (.int (0 : Int32)), .val (.int (0 : Int32)), .val (.int (0 : Int32)), .val (.ref sa20), .val (.ref b21), .val (.ref b25), .val (.int y), .val (.ref b29), .val (.int (0 : Int32))]) (pc' := 185) C P31 at_183 rfl rfl ?_
            refine k_goto (pc' := 205) C P31 at_185 (by decide) (by decide) ?_
            refine k_aload (pc' := 207) C P31 at_205 rfl rfl rfl ?_
            refine k_iload (pc' := 209) C P31 at_207 rfl rfl ?_
            refine k_callV (pc' := 212) (cells' := 7) (slots' := 22) (W := 0) C P31 (C.w 47 rfl) (C.w 48 rfl) (fun _ q => notFace_of_selects (args := #[]) (mvT q (C.w 50 rfl))) (C.w 50 rfl) (C.w 49 rfl) (C.w 51 rfl) (C.w 33 rfl) (by decide) (rmT2 l Z a0 hw _ n0 P31.size b29 b30 b25 b21 y 0 hYe (by decide) k21 (fun i => if i = 0 then Value.ref sa20 else if i = 1 then Value.ref sa20 else Value.ref sa20) F31 f31_b21 sa20 rfl) F31.exa [(.int y)] [] rfl (lenOf pd_5 rfl) rfl (Nat.le_of_eq rfl) at_209 rfl (by decide) (by decide) rfl rfl (by decide) (by decide) all0 rfl ?_
            intro T34 h34 v34 P34 K34 Q34
            obtain ⟨e34, g34⟩ := Q34
            subst g34
            subst e34
            show KGo p e below _ T34 m 212 #[.val (.int p0), .val (.int p1), .val (.int p2), .val (.int (0 : Int32)), .val (.int (0 : Int32)), .val (.int (0 : Int32)), .val (.int (0 : Int32)), .val (.ref sa20), .val (.ref b21), .val (.ref b25), .val (.int y), .val (.ref b29), .val (.int (0 : Int32))] [(.int (0 : Int32))]
            refine k_iload (pc' := 214) C P34 at_212 rfl rfl ?_
            refine k_icN (pc' := 217) C P34 at_214 (rfl : (_ : Int32) = _) rfl ?_
            refine k_iconst (z := (1 : Int32)) (pc' := 218) C P34 at_217 rfl rfl ?_
            refine k_goto (pc' := 222) C P34 at_218 (by decide) (by decide) ?_
            exact k_retZ (z' := (1 : Int32)) C P34 (by simp) at_222 rfl (by decide) (by decide) rfl
        · skip
          refine k_iload (pc' := 111) C P23 at_109 rfl rfl ?_
          refine k_ifN (pc' := 114) C P23 at_111 k_10 rfl ?_
          refine k_aconstNull (pc' := 115) C P23 at_114 rfl ?_
          refine k_goto (pc' := 120) C P23 at_115 (by decide) (by decide) ?_
          refine k_aastore (J := 2) (g' := (fun i => if i = 0 then Value.ref sa20 else if i = 1 then Value.ref sa20 else Value.null)) (pc' := 121) C P23 V23 rfl (Or.inl rfl) at_120 rfl (by decide) (fun i hi => by match i, hi with | 0, _ => rfl | 1, _ => rfl | 2, _ => rfl) ge_b21 (Or.inr sz_b21) rfl ?_
          intro T35 h35 P35 W35 V35
          have f35_sa20 := f23_sa20.other W35 ne_sa20_b21
          refine k_iconst (z := (3 : Int32)) (pc' := 122) C P35 at_121 rfl rfl ?_
          refine k_newp (pc' := 124) (cells' := 4) (slots' := 11) (N := 3) (cap := 3) C P35 (C.w 28 rfl) at_122 rfl (by decide) (by decide) rfl rfl (by decide) (by decide) rfl ?_
          intro T36 h36 b36 k36 P36 hs36 ge_b36 sz_b36 E36 V36
          have ne_sa20_b36 : sa20 ≠ b36 := Nat.ne_of_lt (hs36 ▸ f35_sa20.lt)
          have ne_b21_b36 : b21 ≠ b36 := Nat.ne_of_lt (hs36 ▸ V35.lt)
          have f36_sa20 := f35_sa20.ext E36
          have f36_b21 := V35.ext E36
          refine k_astore (l' := #[.val (.int p0), .val (.int p1), .val (.int p2), .val (.int (0 : Int32)), .val (.int (0 : Int32)), .val (.int (0 : Int32)), .val (.int (1 : Int32)), .val (.ref sa20), .val (.ref b21), .val (.ref b36), .unset, .unset, .unset]) (pc' := 126) C P36 at_124 rfl rfl rfl ?_
          refine k_aload (pc' := 128) C P36 at_126 rfl rfl rfl ?_
          refine k_iconst (z := (0 : Int32)) (pc' := 129) C P36 at_128 rfl rfl ?_
          refine k_dconst0 (z := (0 : UInt64)) (pc' := 130) C P36 at_129 rfl rfl ?_
          refine k_dastore (J := 0) (g' := (fun i => .double (if i = 0 then (0 : UInt64) else if i = 1 then 0 else 0))) (pc' := 131) C P36 V36 at_130 rfl (by decide) (fun i hi => by match i, hi with | 0, _ => rfl | 1, _ => rfl | 2, _ => rfl) ge_b36 (Or.inr sz_b36) rfl ?_
          intro T37 h37 P37 W37 V37
          have f37_sa20 := f36_sa20.other W37 ne_sa20_b36
          have f37_b21 := f36_b21.other W37 ne_b21_b36
          refine k_aload (pc' := 133) C P37 at_131 rfl rfl rfl ?_
          refine k_iconst (z := (1 : Int32)) (pc' := 134) C P37 at_133 rfl rfl ?_
          refine k_dconst1 (z := (4607182418800017408 : UInt64)) (pc' := 135) C P37 at_134 rfl rfl ?_
          refine k_dastore (J := 1) (g' := (fun i => .double (if i = 0 then (0 : UInt64) else if i = 1 then (4607182418800017408 : UInt64) else 0))) (pc' := 136) C P37 V37 at_135 rfl (by decide) (fun i hi => by match i, hi with | 0, _ => rfl | 1, _ => rfl | 2, _ => rfl) ge_b36 (Or.inr sz_b36) rfl ?_
          intro T38 h38 P38 W38 V38
          have f38_sa20 := f37_sa20.other W38 ne_sa20_b36
          have f38_b21 := f37_b21.other W38 ne_b21_b36
          refine k_aload (pc' := 138) C P38 at_136 rfl rfl rfl ?_
          refine k_iconst (z := (2 : Int32)) (pc' := 139) C P38 at_138 rfl rfl ?_
          refine k_ldc2D (pc' := 142) C P38 (C.w 29 rfl) at_139 rfl ?_
          refine k_dastore (J := 2) (g' := (fun i => .double (if i = 0 then (0 : UInt64) else if i = 1 then (4607182418800017408 : UInt64) else (4611686018427387904 : UInt64)))) (pc' := 143) C P38 V38 at_142 rfl (by decide) (fun i hi => by match i, hi with | 0, _ => rfl | 1, _ => rfl | 2, _ => rfl) ge_b36 (Or.inr sz_b36) rfl ?_
          intro T39 h39 P39 W39 V39
          have f39_sa20 := f38_sa20.other W39 ne_sa20_b36
          have f39_b21 := f38_b21.other W39 ne_b21_b36
          refine k_iloadN (pc' := 144) C P39 at_143 rfl rfl ?_
          refine k_ldcI (pc' := 146) C P39 (C.w 30 rfl) at_144 rfl ?_
          refine k_iand (pc' := 147) C P39 at_146 rfl ?_
          refine k_iconst (z := (3 : Int32)) (pc' := 148) C P39 at_147 rfl rfl ?_
          refine k_irem (pc' := 149) C P39 at_148 (by decide) rfl ?_
          obtain ⟨y, e_y⟩ : ∃ z, z = ((p1 &&& (2147483647 : Int32)) % (3 : Int32)) := ⟨_, rfl⟩
          rw [← e_y]
          obtain ⟨Y, hY, hY3⟩ : ∃ Y : Nat, y.toInt = (Y : Int) ∧ Y < 3 := by rw [e_y]; exact own_q p1
          refine k_istore (l' := #[.val (.int p0), .val (.int p1), .val (.int p2), .val (.int (0 : Int32)), .val (.int (0 : Int32)), .val (.int (0 : Int32)), .val (.int (1 : Int32)), .val (.ref sa20), .val (.ref b21), .val (.ref b36), .val (.int y), .unset, .unset]) (pc' := 151) C P39 at_149 rfl rfl ?_
          refine k_newo (pc' := 154) (cells' := 5) (slots' := 14) C P39 (C.w 31 rfl) (C.w 32 rfl) (C.w 33 rfl) at_151 rfl rfl (by decide) (by decide) rfl ?_
          intro T40 h40 b40 P40 hs40 ge_b40 sz_b40 E40 A40 D40
          have ne_sa20_b40 : sa20 ≠ b40 := Nat.ne_of_lt (hs40 ▸ f39_sa20.lt)
          have ne_b21_b40 : b21 ≠ b40 := Nat.ne_of_lt (hs40 ▸ f39_b21.lt)
          have ne_b36_b40 : b36 ≠ b40 := Nat.ne_of_lt (hs40 ▸ V39.lt)
          have f40_sa20 := f39_sa20.ext E40
          have f40_b21 := f39_b21.ext E40
          have f40_b36 := V39.ext E40
          have f40_b40 : KOb Z h40 b40 "com/example/pactline/pactline/model/Service" layV [.null, .null, .null] := KOb.new A40 D40 (lokV C.hw) (by decide +kernel)
          refine k_dup (pc' := 155) C P40 at_154 rfl rfl ?_
          refine k_ldcS (pc' := 157) (n := 4) (cells' := 7) (slots' := 22) C P40 (C.w 34 rfl) (own_sa C.hw) at_155 (by decide) (by decide) rfl rfl (by decide) (by decide) rfl ?_
          intro T41 h41 b41 P41 E41
          have f41_sa20 := f40_sa20.ext E41
          have f41_b21 := f40_b21.ext E41
          have f41_b36 := f40_b36.ext E41
          have f41_b40 := f40_b40.ext E41
          refine k_aload (pc' := 159) C P41 at_157 rfl rfl rfl ?_
          refine k_aload (pc' := 161) C P41 at_159 rfl rfl rfl ?_
          refine k_callN (pc' := 164) (cells' := 7) (slots' := 22) (W := 1) C P41 rfl (C.w 37 rfl) (C.w 38 rfl) (C.w 39 rfl) (C.w 33 rfl) (by decide) (rmSv l Z a0 hw _ n0 P41.size b40 b41 b36 (.ref b21) rfl ge_b40 f41_b40) b40 [(.ref b41), (.ref b36), (.ref b21)] [(.ref b40)] rfl (lenOf pd_4 rfl) rfl (Nat.le_of_eq rfl) at_161 rfl (by decide) (by decide) rfl rfl (by decide) (by decide) (allS (Or.inr sz_b40) all0) rfl ?_
          intro T42 h42 v42 P42 K42 Q42
          obtain ⟨rfl, F42⟩ := Q42
          have f42_sa20 := f41_sa20.keep K42 (ninS ne_sa20_b40 nin0)
          have f42_b21 := f41_b21.keep K42 (ninS ne_b21_b40 nin0)
          have f42_b36 := f41_b36.keep K42 (ninS ne_b36_b40 nin0)
          show KGo p e below _ T42 m 164 #[.val (.int p0), .val (.int p1), .val (.int p2), .val (.int (0 : Int32)), .val (.int (0 : Int32)), .val (.int (0 : Int32)), .val (.int (1 : Int32)), .val (.ref sa20), .val (.ref b21), .val (.ref b36), .val (.int y), .unset, .unset] [(.ref b40)]
          refine k_astore (l' := #[.val (.int p0), .val (.int p1), .val (.int p2), .val (.int (0 : Int32)), .val (.int (0 : Int32)), .val (.int (0 : Int32)), .val (.int (1 : Int32)), .val (.ref sa20), .val (.ref b21), .val (.ref b36), .val (.int y), .val (.ref b40), .unset]) (pc' := 166) C P42 at_164 rfl rfl rfl ?_
          refine k_iloadN (pc' := 167) C P42 at_166 rfl rfl ?_
          refine k_ifY (pc' := 176) C P42 at_167 k_01 (by decide) (by decide) ?_
          refine k_iload (pc' := 178) C P42 at_176 rfl rfl ?_
          refine k_ifB (pcY := 188) (pcN := 181) C P42 at_178 (by decide) (by decide) rfl ?_ ?_
          · intro (hc178 : ¬ y = (0 : Int32))
            refine k_iload (pc' := 190) C P42 at_188 rfl rfl ?_
            refine k_iconst (z := (1 : Int32)) (pc' := 191) C P42 at_190 rfl rfl ?_
            refine k_icB (pcY := 201) (pcN := 194) C P42 at_191 (by decide) (by decide) rfl ?_ ?_
            · intro (hc191 : ¬ y = (1 : Int32))
              have hYe : y.toInt = ((2 : Nat) : Int) := own_two hY hY3 hc178 hc191
              refine k_iload (pc' := 203) C P42 at_201 rfl rfl ?_
              refine k_istore (l' := #[.val (.int p0), .val (.int p1), .val (.int p2), .val (.int (0 : Int32)), .val (.int (0 : Int32)), .val (.int (0 : Int32)), .val (.int (1 : Int32)), .val (.ref sa20), .val (.ref b21), .val (.ref b36), .val (.int y), .val (.ref b40), .val (.int (1 : Int32))]) (pc' := 205) C P42 at_203 rfl rfl ?_
              refine k_aload (pc' := 207) C P42 at_205 rfl rfl rfl ?_
              refine k_iload (pc' := 209) C P42 at_207 rfl rfl ?_
              refine k_callV (pc' := 212) (cells' := 7) (slots' := 22) (W := 0) C P42 (C.w 47 rfl) (C.w 48 rfl) (fun _ q => notFace_of_selects (args := #[]) (mvT q (C.w 50 rfl))) (C.w 50 rfl) (C.w 49 rfl) (C.w 51 rfl) (C.w 33 rfl) (by decide) (rmT1 l Z a0 hw _ n0 P42.size b40 b41 b36 b21 y 2 hYe (by decide) k21 (fun i => if i = 0 then Value.ref sa20 else if i = 1 then Value.ref sa20 else Value.null) F42 f42_b21 rfl) F42.exa [(.int y)] [] rfl (lenOf pd_5 rfl) rfl (Nat.le_of_eq rfl) at_209 rfl (by decide) (by decide) rfl rfl (by decide) (by decide) all0 rfl ?_
              intro T43 h43 v43 P43 K43 Q43
              obtain ⟨e43, g43⟩ := Q43
              subst g43
              subst e43
              show KGo p e below _ T43 m 212 #[.val (.int p0), .val (.int p1), .val (.int p2), .val (.int (0 : Int32)), .val (.int (0 : Int32)), .val (.int (0 : Int32)), .val (.int (1 : Int32)), .val (.ref sa20), .val (.ref b21), .val (.ref b36), .val (.int y), .val (.ref b40), .val (.int (1 : Int32))] [(.int (1 : Int32))]
              refine k_iload (pc' := 214) C P43 at_212 rfl rfl ?_
              refine k_icN (pc' := 217) C P43 at_214 (rfl : (_ : Int32) = _) rfl ?_
              refine k_iconst (z := (1 : Int32)) (pc' := 218) C P43 at_217 rfl rfl ?_
              refine k_goto (pc' := 222) C P43 at_218 (by decide) (by decide) ?_
              exact k_retZ (z' := (1 : Int32)) C P43 (by simp) at_222 rfl (by decide) (by decide) rfl
            · intro (hc191 : y = (1 : Int32))
              have hYe : y.toInt = ((1 : Nat) : Int) := by rw [hc191]; rfl
              refine k_iload (pc' := 196) C P42 at_194 rfl rfl ?_
              refine k_istore (l' := #[.val (.int p0), .val (.int p1), .val (.int p2), .val (.int (0 : Int32)), .val (.int (0 : Int32)), .val (.int (0 : Int32)), .val (.int (1 : Int32)), .val (.ref sa20), .val (.ref b21), .val (.ref b36), .val (.int y), .val (.ref b40), .val (.int (0 : Int32))]) (pc' := 198) C P42 at_196 rfl rfl ?_
              refine k_goto (pc' := 205) C P42 at_198 (by decide) (by decide) ?_
              refine k_aload (pc' := 207) C P42 at_205 rfl rfl rfl ?_
              refine k_iload (pc' := 209) C P42 at_207 rfl rfl ?_
              refine k_callV (pc' := 212) (cells' := 7) (slots' := 22) (W := 0) C P42 (C.w 47 rfl) (C.w 48 rfl) (fun _ q => notFace_of_selects (args := #[]) (mvT q (C.w 50 rfl))) (C.w 50 rfl) (C.w 49 rfl) (C.w 51 rfl) (C.w 33 rfl) (by decide) (rmT2 l Z a0 hw _ n0 P42.size b40 b41 b36 b21 y 1 hYe (by decide) k21 (fun i => if i = 0 then Value.ref sa20 else if i = 1 then Value.ref sa20 else Value.null) F42 f42_b21 sa20 rfl) F42.exa [(.int y)] [] rfl (lenOf pd_5 rfl) rfl (Nat.le_of_eq rfl) at_209 rfl (by decide) (by decide) rfl rfl (by decide) (by decide) all0 rfl ?_
              intro T44 h44 v44 P44 K44 Q44
              obtain ⟨e44, g44⟩ := Q44
              subst g44
              subst e44
              show KGo p e below _ T44 m 212 #[.val (.int p0), .val (.int p1), .val (.int p2), .val (.int (0 : Int32)), .val (.int (0 : Int32)), .val (.int (0 : Int32)), .val (.int (1 : Int32)), .val (.ref sa20), .val (.ref b21), .val (.ref b36), .val (.int y), .val (.ref b40), .val (.int (0 : Int32))] [(.int (0 : Int32))]
              refine k_iload (pc' := 214) C P44 at_212 rfl rfl ?_
              refine k_icN (pc' := 217) C P44 at_214 (rfl : (_ : Int32) = _) rfl ?_
              refine k_iconst (z := (1 : Int32)) (pc' := 218) C P44 at_217 rfl rfl ?_
              refine k_goto (pc' := 222) C P44 at_218 (by decide) (by decide) ?_
              exact k_retZ (z' := (1 : Int32)) C P44 (by simp) at_222 rfl (by decide) (by decide) rfl
          · intro (hc178 : y = (0 : Int32))
            have hYe : y.toInt = ((0 : Nat) : Int) := by rw [hc178]; rfl
            refine k_iload (pc' := 183) C P42 at_181 rfl rfl ?_
            refine k_istore (l' := #[.val (.int p0), .val (.int p1), .val (.int p2), .val (.int (0 : Int32)), .val (.int (0 : Int32)), .val (.int (0 : Int32)), .val (.int (1 : Int32)), .val (.ref sa20), .val (.ref b21), .val (.ref b36), .val (.int y), .val (.ref b40), .val (.int (0 : Int32))]) (pc' := 185) C P42 at_183 rfl rfl ?_
            refine k_goto (pc' := 205) C P42 at_185 (by decide) (by decide) ?_
            refine k_aload (pc' := 207) C P42 at_205 rfl rfl rfl ?_
            refine k_iload (pc' := 209) C P42 at_207 rfl rfl ?_
            refine k_callV (pc' := 212) (cells' := 7) (slots' := 22) (W := 0) C P42 (C.w 47 rfl) (C.w 48 rfl) (fun _ q => notFace_of_selects (args := #[]) (mvT q (C.w 50 rfl))) (C.w 50 rfl) (C.w 49 rfl) (C.w 51 rfl) (C.w 33 rfl) (by decide) (rmT2 l Z a0 hw _ n0 P42.size b40 b41 b36 b21 y 0 hYe (by decide) k21 (fun i => if i = 0 then Value.ref sa20 else if i = 1 then Value.ref sa20 else Value.null) F42 f42_b21 sa20 rfl) F42.exa [(.int y)] [] rfl (lenOf pd_5 rfl) rfl (Nat.le_of_eq rfl) at_209 rfl (by decide) (by decide) rfl rfl (by decide) (by decide) all0 rfl ?_
            intro T45 h45 v45 P45 K45 Q45
            obtain ⟨e45, g45⟩ := Q45
            subst g45
            subst e45
            show KGo p e below _ T45 m 212 #[.val (.int p0), .val (.int p1), .val (.int p2), .val (.int (0 : Int32)), .val (.int (0 : Int32)), .val (.int (0 : Int32)), .val (.int (1 : Int32)), .val (.ref sa20), .val (.ref b21), .val (.ref b36), .val (.int y), .val (.ref b40), .val (.int (0 : Int32))] [(.int (0 : Int32))]
            refine k_iload (pc' := 214) C P45 at_212 rfl rfl ?_
            refine k_icN (pc' := 217) C P45 at_214 (rfl : (_ : Int32) = _) rfl ?_
            refine k_iconst (z := (1 : Int32)) (pc' := 218) C P45 at_217 rfl rfl ?_
            refine k_goto (pc' := 222) C P45 at_218 (by decide) (by decide) ?_
            exact k_retZ (z' := (1 : Int32)) C P45 (by simp) at_222 rfl (by decide) (by decide) rfl
      · skip
        refine k_iload (pc' := 96) C P22 at_94 rfl rfl ?_
        refine k_ifN (pc' := 99) C P22 at_96 k_10 rfl ?_
        refine k_aconstNull (pc' := 100) C P22 at_99 rfl ?_
        refine k_goto (pc' := 105) C P22 at_100 (by decide) (by decide) ?_
        refine k_aastore (J := 1) (g' := (fun i => if i = 0 then Value.ref sa20 else if i = 1 then Value.null else Value.null)) (pc' := 106) C P22 V22 rfl (Or.inl rfl) at_105 rfl (by decide) (fun i hi => by match i, hi with | 0, _ => rfl | 1, _ => rfl | 2, _ => rfl) ge_b21 (Or.inr sz_b21) rfl ?_
        intro T46 h46 P46 W46 V46
        have f46_sa20 := f22_sa20.other W46 ne_sa20_b21
        refine k_aload (pc' := 108) C P46 at_106 rfl rfl rfl ?_
        refine k_iconst (z := (2 : Int32)) (pc' := 109) C P46 at_108 rfl rfl ?_
        rcases h_m6 with rfl | rfl
        · skip
          refine k_iload (pc' := 111) C P46 at_109 rfl rfl ?_
          refine k_ifY (pc' := 118) C P46 at_111 k_01 (by decide) (by decide) ?_
          refine k_aload (pc' := 120) C P46 at_118 rfl rfl rfl ?_
          refine k_aastore (J := 2) (g' := (fun i => if i = 0 then Value.ref sa20 else if i = 1 then Value.null else Value.ref sa20)) (pc' := 121) C P46 V46 rfl (V46.sto (K1 := "") O21 (Ins.self f46_sa20.exa)) at_120 rfl (by decide) (fun i hi => by match i, hi with | 0, _ => rfl | 1, _ => rfl | 2, _ => rfl) ge_b21 (Or.inr sz_b21) rfl ?_
          intro T47 h47 P47 W47 V47
          have f47_sa20 := f46_sa20.other W47 ne_sa20_b21
          refine k_iconst (z := (3 : Int32)) (pc' := 122) C P47 at_121 rfl rfl ?_
          refine k_newp (pc' := 124) (cells' := 4) (slots' := 11) (N := 3) (cap := 3) C P47 (C.w 28 rfl) at_122 rfl (by decide) (by decide) rfl rfl (by decide) (by decide) rfl ?_
          intro T48 h48 b48 k48 P48 hs48 ge_b48 sz_b48 E48 V48
          have ne_sa20_b48 : sa20 ≠ b48 := Nat.ne_of_lt (hs48 ▸ f47_sa20.lt)
          have ne_b21_b48 : b21 ≠ b48 := Nat.ne_of_lt (hs48 ▸ V47.lt)
          have f48_sa20 := f47_sa20.ext E48
          have f48_b21 := V47.ext E48
          refine k_astore (l' := #[.val (.int p0), .val (.int p1), .val (.int p2), .val (.int (0 : Int32)), .val (.int (0 : Int32)), .val (.int (1 : Int32)), .val (.int (0 : Int32)), .val (.ref sa20), .val (.ref b21), .val (.ref b48), .unset, .unset, .unset]) (pc' := 126) C P48 at_124 rfl rfl rfl ?_
          refine k_aload (pc' := 128) C P48 at_126 rfl rfl rfl ?_
          refine k_iconst (z := (0 : Int32)) (pc' := 129) C P48 at_128 rfl rfl ?_
          refine k_dconst0 (z := (0 : UInt64)) (pc' := 130) C P48 at_129 rfl rfl ?_
          refine k_dastore (J := 0) (g' := (fun i => .double (if i = 0 then (0 : UInt64) else if i = 1 then 0 else 0))) (pc' := 131) C P48 V48 at_130 rfl (by decide) (fun i hi => by match i, hi with | 0, _ => rfl | 1, _ => rfl | 2, _ => rfl) ge_b48 (Or.inr sz_b48) rfl ?_
          intro T49 h49 P49 W49 V49
          have f49_sa20 := f48_sa20.other W49 ne_sa20_b48
          have f49_b21 := f48_b21.other W49 ne_b21_b48
          refine k_aload (pc' := 133) C P49 at_131 rfl rfl rfl ?_
          refine k_iconst (z := (1 : Int32)) (pc' := 134) C P49 at_133 rfl rfl ?_
          refine k_dconst1 (z := (4607182418800017408 : UInt64)) (pc' := 135) C P49 at_134 rfl rfl ?_
          refine k_dastore (J := 1) (g' := (fun i => .double (if i = 0 then (0 : UInt64) else if i = 1 then (4607182418800017408 : UInt64) else 0))) (pc' := 136) C P49 V49 at_135 rfl (by decide) (fun i hi => by match i, hi with | 0, _ => rfl | 1, _ => rfl | 2, _ => rfl) ge_b48 (Or.inr sz_b48) rfl ?_
          intro T50 h50 P50 W50 V50
          have f50_sa20 := f49_sa20.other W50 ne_sa20_b48
          have f50_b21 := f49_b21.other W50 ne_b21_b48
          refine k_aload (pc' := 138) C P50 at_136 rfl rfl rfl ?_
          refine k_iconst (z := (2 : Int32)) (pc' := 139) C P50 at_138 rfl rfl ?_
          refine k_ldc2D (pc' := 142) C P50 (C.w 29 rfl) at_139 rfl ?_
          refine k_dastore (J := 2) (g' := (fun i => .double (if i = 0 then (0 : UInt64) else if i = 1 then (4607182418800017408 : UInt64) else (4611686018427387904 : UInt64)))) (pc' := 143) C P50 V50 at_142 rfl (by decide) (fun i hi => by match i, hi with | 0, _ => rfl | 1, _ => rfl | 2, _ => rfl) ge_b48 (Or.inr sz_b48) rfl ?_
          intro T51 h51 P51 W51 V51
          have f51_sa20 := f50_sa20.other W51 ne_sa20_b48
          have f51_b21 := f50_b21.other W51 ne_b21_b48
          refine k_iloadN (pc' := 144) C P51 at_143 rfl rfl ?_
          refine k_ldcI (pc' := 146) C P51 (C.w 30 rfl) at_144 rfl ?_
          refine k_iand (pc' := 147) C P51 at_146 rfl ?_
          refine k_iconst (z := (3 : Int32)) (pc' := 148) C P51 at_147 rfl rfl ?_
          refine k_irem (pc' := 149) C P51 at_148 (by decide) rfl ?_
          obtain ⟨y, e_y⟩ : ∃ z, z = ((p1 &&& (2147483647 : Int32)) % (3 : Int32)) := ⟨_, rfl⟩
          rw [← e_y]
          obtain ⟨Y, hY, hY3⟩ : ∃ Y : Nat, y.toInt = (Y : Int) ∧ Y < 3 := by rw [e_y]; exact own_q p1
          refine k_istore (l' := #[.val (.int p0), .val (.int p1), .val (.int p2), .val (.int (0 : Int32)), .val (.int (0 : Int32)), .val (.int (1 : Int32)), .val (.int (0 : Int32)), .val (.ref sa20), .val (.ref b21), .val (.ref b48), .val (.int y), .unset, .unset]) (pc' := 151) C P51 at_149 rfl rfl ?_
          refine k_newo (pc' := 154) (cells' := 5) (slots' := 14) C P51 (C.w 31 rfl) (C.w 32 rfl) (C.w 33 rfl) at_151 rfl rfl (by decide) (by decide) rfl ?_
          intro T52 h52 b52 P52 hs52 ge_b52 sz_b52 E52 A52 D52
          have ne_sa20_b52 : sa20 ≠ b52 := Nat.ne_of_lt (hs52 ▸ f51_sa20.lt)
          have ne_b21_b52 : b21 ≠ b52 := Nat.ne_of_lt (hs52 ▸ f51_b21.lt)
          have ne_b48_b52 : b48 ≠ b52 := Nat.ne_of_lt (hs52 ▸ V51.lt)
          have f52_sa20 := f51_sa20.ext E52
          have f52_b21 := f51_b21.ext E52
          have f52_b48 := V51.ext E52
          have f52_b52 : KOb Z h52 b52 "com/example/pactline/pactline/model/Service" layV [.null, .null, .null] := KOb.new A52 D52 (lokV C.hw) (by decide +kernel)
          refine k_dup (pc' := 155) C P52 at_154 rfl rfl ?_
          refine k_ldcS (pc' := 157) (n := 4) (cells' := 7) (slots' := 22) C P52 (C.w 34 rfl) (own_sa C.hw) at_155 (by decide) (by decide) rfl rfl (by decide) (by decide) rfl ?_
          intro T53 h53 b53 P53 E53
          have f53_sa20 := f52_sa20.ext E53
          have f53_b21 := f52_b21.ext E53
          have f53_b48 := f52_b48.ext E53
          have f53_b52 := f52_b52.ext E53
          refine k_aload (pc' := 159) C P53 at_157 rfl rfl rfl ?_
          refine k_aload (pc' := 161) C P53 at_159 rfl rfl rfl ?_
          refine k_callN (pc' := 164) (cells' := 7) (slots' := 22) (W := 1) C P53 rfl (C.w 37 rfl) (C.w 38 rfl) (C.w 39 rfl) (C.w 33 rfl) (by decide) (rmSv l Z a0 hw _ n0 P53.size b52 b53 b48 (.ref b21) rfl ge_b52 f53_b52) b52 [(.ref b53), (.ref b48), (.ref b21)] [(.ref b52)] rfl (lenOf pd_4 rfl) rfl (Nat.le_of_eq rfl) at_161 rfl (by decide) (by decide) rfl rfl (by decide) (by decide) (allS (Or.inr sz_b52) all0) rfl ?_
          intro T54 h54 v54 P54 K54 Q54
          obtain ⟨rfl, F54⟩ := Q54
          have f54_sa20 := f53_sa20.keep K54 (ninS ne_sa20_b52 nin0)
          have f54_b21 := f53_b21.keep K54 (ninS ne_b21_b52 nin0)
          have f54_b48 := f53_b48.keep K54 (ninS ne_b48_b52 nin0)
          show KGo p e below _ T54 m 164 #[.val (.int p0), .val (.int p1), .val (.int p2), .val (.int (0 : Int32)), .val (.int (0 : Int32)), .val (.int (1 : Int32)), .val (.int (0 : Int32)), .val (.ref sa20), .val (.ref b21), .val (.ref b48), .val (.int y), .unset, .unset] [(.ref b52)]
          refine k_astore (l' := #[.val (.int p0), .val (.int p1), .val (.int p2), .val (.int (0 : Int32)), .val (.int (0 : Int32)), .val (.int (1 : Int32)), .val (.int (0 : Int32)), .val (.ref sa20), .val (.ref b21), .val (.ref b48), .val (.int y), .val (.ref b52), .unset]) (pc' := 166) C P54 at_164 rfl rfl rfl ?_
          refine k_iloadN (pc' := 167) C P54 at_166 rfl rfl ?_
          refine k_ifY (pc' := 176) C P54 at_167 k_01 (by decide) (by decide) ?_
          refine k_iload (pc' := 178) C P54 at_176 rfl rfl ?_
          refine k_ifB (pcY := 188) (pcN := 181) C P54 at_178 (by decide) (by decide) rfl ?_ ?_
          · intro (hc178 : ¬ y = (0 : Int32))
            refine k_iload (pc' := 190) C P54 at_188 rfl rfl ?_
            refine k_iconst (z := (1 : Int32)) (pc' := 191) C P54 at_190 rfl rfl ?_
            refine k_icB (pcY := 201) (pcN := 194) C P54 at_191 (by decide) (by decide) rfl ?_ ?_
            · intro (hc191 : ¬ y = (1 : Int32))
              have hYe : y.toInt = ((2 : Nat) : Int) := own_two hY hY3 hc178 hc191
              refine k_iload (pc' := 203) C P54 at_201 rfl rfl ?_
              refine k_istore (l' := #[.val (.int p0), .val (.int p1), .val (.int p2), .val (.int (0 : Int32)), .val (.int (0 : Int32)), .val (.int (1 : Int32)), .val (.int (0 : Int32)), .val (.ref sa20), .val (.ref b21), .val (.ref b48), .val (.int y), .val (.ref b52), .val (.int (0 : Int32))]) (pc' := 205) C P54 at_203 rfl rfl ?_
              refine k_aload (pc' := 207) C P54 at_205 rfl rfl rfl ?_
              refine k_iload (pc' := 209) C P54 at_207 rfl rfl ?_
              refine k_callV (pc' := 212) (cells' := 7) (slots' := 22) (W := 0) C P54 (C.w 47 rfl) (C.w 48 rfl) (fun _ q => notFace_of_selects (args := #[]) (mvT q (C.w 50 rfl))) (C.w 50 rfl) (C.w 49 rfl) (C.w 51 rfl) (C.w 33 rfl) (by decide) (rmT2 l Z a0 hw _ n0 P54.size b52 b53 b48 b21 y 2 hYe (by decide) k21 (fun i => if i = 0 then Value.ref sa20 else if i = 1 then Value.null else Value.ref sa20) F54 f54_b21 sa20 rfl) F54.exa [(.int y)] [] rfl (lenOf pd_5 rfl) rfl (Nat.le_of_eq rfl) at_209 rfl (by decide) (by decide) rfl rfl (by decide) (by decide) all0 rfl ?_
              intro T55 h55 v55 P55 K55 Q55
              obtain ⟨e55, g55⟩ := Q55
              subst g55
              subst e55
              show KGo p e below _ T55 m 212 #[.val (.int p0), .val (.int p1), .val (.int p2), .val (.int (0 : Int32)), .val (.int (0 : Int32)), .val (.int (1 : Int32)), .val (.int (0 : Int32)), .val (.ref sa20), .val (.ref b21), .val (.ref b48), .val (.int y), .val (.ref b52), .val (.int (0 : Int32))] [(.int (0 : Int32))]
              refine k_iload (pc' := 214) C P55 at_212 rfl rfl ?_
              refine k_icN (pc' := 217) C P55 at_214 (rfl : (_ : Int32) = _) rfl ?_
              refine k_iconst (z := (1 : Int32)) (pc' := 218) C P55 at_217 rfl rfl ?_
              refine k_goto (pc' := 222) C P55 at_218 (by decide) (by decide) ?_
              exact k_retZ (z' := (1 : Int32)) C P55 (by simp) at_222 rfl (by decide) (by decide) rfl
            · intro (hc191 : y = (1 : Int32))
              have hYe : y.toInt = ((1 : Nat) : Int) := by rw [hc191]; rfl
              refine k_iload (pc' := 196) C P54 at_194 rfl rfl ?_
              refine k_istore (l' := #[.val (.int p0), .val (.int p1), .val (.int p2), .val (.int (0 : Int32)), .val (.int (0 : Int32)), .val (.int (1 : Int32)), .val (.int (0 : Int32)), .val (.ref sa20), .val (.ref b21), .val (.ref b48), .val (.int y), .val (.ref b52), .val (.int (1 : Int32))]) (pc' := 198) C P54 at_196 rfl rfl ?_
              refine k_goto (pc' := 205) C P54 at_198 (by decide) (by decide) ?_
              refine k_aload (pc' := 207) C P54 at_205 rfl rfl rfl ?_
              refine k_iload (pc' := 209) C P54 at_207 rfl rfl ?_
              refine k_callV (pc' := 212) (cells' := 7) (slots' := 22) (W := 0) C P54 (C.w 47 rfl) (C.w 48 rfl) (fun _ q => notFace_of_selects (args := #[]) (mvT q (C.w 50 rfl))) (C.w 50 rfl) (C.w 49 rfl) (C.w 51 rfl) (C.w 33 rfl) (by decide) (rmT1 l Z a0 hw _ n0 P54.size b52 b53 b48 b21 y 1 hYe (by decide) k21 (fun i => if i = 0 then Value.ref sa20 else if i = 1 then Value.null else Value.ref sa20) F54 f54_b21 rfl) F54.exa [(.int y)] [] rfl (lenOf pd_5 rfl) rfl (Nat.le_of_eq rfl) at_209 rfl (by decide) (by decide) rfl rfl (by decide) (by decide) all0 rfl ?_
              intro T56 h56 v56 P56 K56 Q56
              obtain ⟨e56, g56⟩ := Q56
              subst g56
              subst e56
              show KGo p e below _ T56 m 212 #[.val (.int p0), .val (.int p1), .val (.int p2), .val (.int (0 : Int32)), .val (.int (0 : Int32)), .val (.int (1 : Int32)), .val (.int (0 : Int32)), .val (.ref sa20), .val (.ref b21), .val (.ref b48), .val (.int y), .val (.ref b52), .val (.int (1 : Int32))] [(.int (1 : Int32))]
              refine k_iload (pc' := 214) C P56 at_212 rfl rfl ?_
              refine k_icN (pc' := 217) C P56 at_214 (rfl : (_ : Int32) = _) rfl ?_
              refine k_iconst (z := (1 : Int32)) (pc' := 218) C P56 at_217 rfl rfl ?_
              refine k_goto (pc' := 222) C P56 at_218 (by decide) (by decide) ?_
              exact k_retZ (z' := (1 : Int32)) C P56 (by simp) at_222 rfl (by decide) (by decide) rfl
          · intro (hc178 : y = (0 : Int32))
            have hYe : y.toInt = ((0 : Nat) : Int) := by rw [hc178]; rfl
            refine k_iload (pc' := 183) C P54 at_181 rfl rfl ?_
            refine k_istore (l' := #[.val (.int p0), .val (.int p1), .val (.int p2), .val (.int (0 : Int32)), .val (.int (0 : Int32)), .val (.int (1 : Int32)), .val (.int (0 : Int32)), .val (.ref sa20), .val (.ref b21), .val (.ref b48), .val (.int y), .val (.ref b52), .val (.int (0 : Int32))]) (pc' := 185) C P54 at_183 rfl rfl ?_
            refine k_goto (pc' := 205) C P54 at_185 (by decide) (by decide) ?_
            refine k_aload (pc' := 207) C P54 at_205 rfl rfl rfl ?_
            refine k_iload (pc' := 209) C P54 at_207 rfl rfl ?_
            refine k_callV (pc' := 212) (cells' := 7) (slots' := 22) (W := 0) C P54 (C.w 47 rfl) (C.w 48 rfl) (fun _ q => notFace_of_selects (args := #[]) (mvT q (C.w 50 rfl))) (C.w 50 rfl) (C.w 49 rfl) (C.w 51 rfl) (C.w 33 rfl) (by decide) (rmT2 l Z a0 hw _ n0 P54.size b52 b53 b48 b21 y 0 hYe (by decide) k21 (fun i => if i = 0 then Value.ref sa20 else if i = 1 then Value.null else Value.ref sa20) F54 f54_b21 sa20 rfl) F54.exa [(.int y)] [] rfl (lenOf pd_5 rfl) rfl (Nat.le_of_eq rfl) at_209 rfl (by decide) (by decide) rfl rfl (by decide) (by decide) all0 rfl ?_
            intro T57 h57 v57 P57 K57 Q57
            obtain ⟨e57, g57⟩ := Q57
            subst g57
            subst e57
            show KGo p e below _ T57 m 212 #[.val (.int p0), .val (.int p1), .val (.int p2), .val (.int (0 : Int32)), .val (.int (0 : Int32)), .val (.int (1 : Int32)), .val (.int (0 : Int32)), .val (.ref sa20), .val (.ref b21), .val (.ref b48), .val (.int y), .val (.ref b52), .val (.int (0 : Int32))] [(.int (0 : Int32))]
            refine k_iload (pc' := 214) C P57 at_212 rfl rfl ?_
            refine k_icN (pc' := 217) C P57 at_214 (rfl : (_ : Int32) = _) rfl ?_
            refine k_iconst (z := (1 : Int32)) (pc' := 218) C P57 at_217 rfl rfl ?_
            refine k_goto (pc' := 222) C P57 at_218 (by decide) (by decide) ?_
            exact k_retZ (z' := (1 : Int32)) C P57 (by simp) at_222 rfl (by decide) (by decide) rfl
        · skip
          refine k_iload (pc' := 111) C P46 at_109 rfl rfl ?_
          refine k_ifN (pc' := 114) C P46 at_111 k_10 rfl ?_
          refine k_aconstNull (pc' := 115) C P46 at_114 rfl ?_
          refine k_goto (pc' := 120) C P46 at_115 (by decide) (by decide) ?_
          refine k_aastore (J := 2) (g' := (fun i => if i = 0 then Value.ref sa20 else if i = 1 then Value.null else Value.null)) (pc' := 121) C P46 V46 rfl (Or.inl rfl) at_120 rfl (by decide) (fun i hi => by match i, hi with | 0, _ => rfl | 1, _ => rfl | 2, _ => rfl) ge_b21 (Or.inr sz_b21) rfl ?_
          intro T58 h58 P58 W58 V58
          have f58_sa20 := f46_sa20.other W58 ne_sa20_b21
          refine k_iconst (z := (3 : Int32)) (pc' := 122) C P58 at_121 rfl rfl ?_
          refine k_newp (pc' := 124) (cells' := 4) (slots' := 11) (N := 3) (cap := 3) C P58 (C.w 28 rfl) at_122 rfl (by decide) (by decide) rfl rfl (by decide) (by decide) rfl ?_
          intro T59 h59 b59 k59 P59 hs59 ge_b59 sz_b59 E59 V59
          have ne_sa20_b59 : sa20 ≠ b59 := Nat.ne_of_lt (hs59 ▸ f58_sa20.lt)
          have ne_b21_b59 : b21 ≠ b59 := Nat.ne_of_lt (hs59 ▸ V58.lt)
          have f59_sa20 := f58_sa20.ext E59
          have f59_b21 := V58.ext E59
          refine k_astore (l' := #[.val (.int p0), .val (.int p1), .val (.int p2), .val (.int (0 : Int32)), .val (.int (0 : Int32)), .val (.int (1 : Int32)), .val (.int (1 : Int32)), .val (.ref sa20), .val (.ref b21), .val (.ref b59), .unset, .unset, .unset]) (pc' := 126) C P59 at_124 rfl rfl rfl ?_
          refine k_aload (pc' := 128) C P59 at_126 rfl rfl rfl ?_
          refine k_iconst (z := (0 : Int32)) (pc' := 129) C P59 at_128 rfl rfl ?_
          refine k_dconst0 (z := (0 : UInt64)) (pc' := 130) C P59 at_129 rfl rfl ?_
          refine k_dastore (J := 0) (g' := (fun i => .double (if i = 0 then (0 : UInt64) else if i = 1 then 0 else 0))) (pc' := 131) C P59 V59 at_130 rfl (by decide) (fun i hi => by match i, hi with | 0, _ => rfl | 1, _ => rfl | 2, _ => rfl) ge_b59 (Or.inr sz_b59) rfl ?_
          intro T60 h60 P60 W60 V60
          have f60_sa20 := f59_sa20.other W60 ne_sa20_b59
          have f60_b21 := f59_b21.other W60 ne_b21_b59
          refine k_aload (pc' := 133) C P60 at_131 rfl rfl rfl ?_
          refine k_iconst (z := (1 : Int32)) (pc' := 134) C P60 at_133 rfl rfl ?_
          refine k_dconst1 (z := (4607182418800017408 : UInt64)) (pc' := 135) C P60 at_134 rfl rfl ?_
          refine k_dastore (J := 1) (g' := (fun i => .double (if i = 0 then (0 : UInt64) else if i = 1 then (4607182418800017408 : UInt64) else 0))) (pc' := 136) C P60 V60 at_135 rfl (by decide) (fun i hi => by match i, hi with | 0, _ => rfl | 1, _ => rfl | 2, _ => rfl) ge_b59 (Or.inr sz_b59) rfl ?_
          intro T61 h61 P61 W61 V61
          have f61_sa20 := f60_sa20.other W61 ne_sa20_b59
          have f61_b21 := f60_b21.other W61 ne_b21_b59
          refine k_aload (pc' := 138) C P61 at_136 rfl rfl rfl ?_
          refine k_iconst (z := (2 : Int32)) (pc' := 139) C P61 at_138 rfl rfl ?_
          refine k_ldc2D (pc' := 142) C P61 (C.w 29 rfl) at_139 rfl ?_
          refine k_dastore (J := 2) (g' := (fun i => .double (if i = 0 then (0 : UInt64) else if i = 1 then (4607182418800017408 : UInt64) else (4611686018427387904 : UInt64)))) (pc' := 143) C P61 V61 at_142 rfl (by decide) (fun i hi => by match i, hi with | 0, _ => rfl | 1, _ => rfl | 2, _ => rfl) ge_b59 (Or.inr sz_b59) rfl ?_
          intro T62 h62 P62 W62 V62
          have f62_sa20 := f61_sa20.other W62 ne_sa20_b59
          have f62_b21 := f61_b21.other W62 ne_b21_b59
          refine k_iloadN (pc' := 144) C P62 at_143 rfl rfl ?_
          refine k_ldcI (pc' := 146) C P62 (C.w 30 rfl) at_144 rfl ?_
          refine k_iand (pc' := 147) C P62 at_146 rfl ?_
          refine k_iconst (z := (3 : Int32)) (pc' := 148) C P62 at_147 rfl rfl ?_
          refine k_irem (pc' := 149) C P62 at_148 (by decide) rfl ?_
          obtain ⟨y, e_y⟩ : ∃ z, z = ((p1 &&& (2147483647 : Int32)) % (3 : Int32)) := ⟨_, rfl⟩
          rw [← e_y]
          obtain ⟨Y, hY, hY3⟩ : ∃ Y : Nat, y.toInt = (Y : Int) ∧ Y < 3 := by rw [e_y]; exact own_q p1
          refine k_istore (l' := #[.val (.int p0), .val (.int p1), .val (.int p2), .val (.int (0 : Int32)), .val (.int (0 : Int32)), .val (.int (1 : Int32)), .val (.int (1 : Int32)), .val (.ref sa20), .val (.ref b21), .val (.ref b59), .val (.int y), .unset, .unset]) (pc' := 151) C P62 at_149 rfl rfl ?_
          refine k_newo (pc' := 154) (cells' := 5) (slots' := 14) C P62 (C.w 31 rfl) (C.w 32 rfl) (C.w 33 rfl) at_151 rfl rfl (by decide) (by decide) rfl ?_
          intro T63 h63 b63 P63 hs63 ge_b63 sz_b63 E63 A63 D63
          have ne_sa20_b63 : sa20 ≠ b63 := Nat.ne_of_lt (hs63 ▸ f62_sa20.lt)
          have ne_b21_b63 : b21 ≠ b63 := Nat.ne_of_lt (hs63 ▸ f62_b21.lt)
          have ne_b59_b63 : b59 ≠ b63 := Nat.ne_of_lt (hs63 ▸ V62.lt)
          have f63_sa20 := f62_sa20.ext E63
          have f63_b21 := f62_b21.ext E63
          have f63_b59 := V62.ext E63
          have f63_b63 : KOb Z h63 b63 "com/example/pactline/pactline/model/Service" layV [.null, .null, .null] := KOb.new A63 D63 (lokV C.hw) (by decide +kernel)
          refine k_dup (pc' := 155) C P63 at_154 rfl rfl ?_
          refine k_ldcS (pc' := 157) (n := 4) (cells' := 7) (slots' := 22) C P63 (C.w 34 rfl) (own_sa C.hw) at_155 (by decide) (by decide) rfl rfl (by decide) (by decide) rfl ?_
          intro T64 h64 b64 P64 E64
          have f64_sa20 := f63_sa20.ext E64
          have f64_b21 := f63_b21.ext E64
          have f64_b59 := f63_b59.ext E64
          have f64_b63 := f63_b63.ext E64
          refine k_aload (pc' := 159) C P64 at_157 rfl rfl rfl ?_
          refine k_aload (pc' := 161) C P64 at_159 rfl rfl rfl ?_
          refine k_callN (pc' := 164) (cells' := 7) (slots' := 22) (W := 1) C P64 rfl (C.w 37 rfl) (C.w 38 rfl) (C.w 39 rfl) (C.w 33 rfl) (by decide) (rmSv l Z a0 hw _ n0 P64.size b63 b64 b59 (.ref b21) rfl ge_b63 f64_b63) b63 [(.ref b64), (.ref b59), (.ref b21)] [(.ref b63)] rfl (lenOf pd_4 rfl) rfl (Nat.le_of_eq rfl) at_161 rfl (by decide) (by decide) rfl rfl (by decide) (by decide) (allS (Or.inr sz_b63) all0) rfl ?_
          intro T65 h65 v65 P65 K65 Q65
          obtain ⟨rfl, F65⟩ := Q65
          have f65_sa20 := f64_sa20.keep K65 (ninS ne_sa20_b63 nin0)
          have f65_b21 := f64_b21.keep K65 (ninS ne_b21_b63 nin0)
          have f65_b59 := f64_b59.keep K65 (ninS ne_b59_b63 nin0)
          show KGo p e below _ T65 m 164 #[.val (.int p0), .val (.int p1), .val (.int p2), .val (.int (0 : Int32)), .val (.int (0 : Int32)), .val (.int (1 : Int32)), .val (.int (1 : Int32)), .val (.ref sa20), .val (.ref b21), .val (.ref b59), .val (.int y), .unset, .unset] [(.ref b63)]
          refine k_astore (l' := #[.val (.int p0), .val (.int p1), .val (.int p2), .val (.int (0 : Int32)), .val (.int (0 : Int32)), .val (.int (1 : Int32)), .val (.int (1 : Int32)), .val (.ref sa20), .val (.ref b21), .val (.ref b59), .val (.int y), .val (.ref b63), .unset]) (pc' := 166) C P65 at_164 rfl rfl rfl ?_
          refine k_iloadN (pc' := 167) C P65 at_166 rfl rfl ?_
          refine k_ifY (pc' := 176) C P65 at_167 k_01 (by decide) (by decide) ?_
          refine k_iload (pc' := 178) C P65 at_176 rfl rfl ?_
          refine k_ifB (pcY := 188) (pcN := 181) C P65 at_178 (by decide) (by decide) rfl ?_ ?_
          · intro (hc178 : ¬ y = (0 : Int32))
            refine k_iload (pc' := 190) C P65 at_188 rfl rfl ?_
            refine k_iconst (z := (1 : Int32)) (pc' := 191) C P65 at_190 rfl rfl ?_
            refine k_icB (pcY := 201) (pcN := 194) C P65 at_191 (by decide) (by decide) rfl ?_ ?_
            · intro (hc191 : ¬ y = (1 : Int32))
              have hYe : y.toInt = ((2 : Nat) : Int) := own_two hY hY3 hc178 hc191
              refine k_iload (pc' := 203) C P65 at_201 rfl rfl ?_
              refine k_istore (l' := #[.val (.int p0), .val (.int p1), .val (.int p2), .val (.int (0 : Int32)), .val (.int (0 : Int32)), .val (.int (1 : Int32)), .val (.int (1 : Int32)), .val (.ref sa20), .val (.ref b21), .val (.ref b59), .val (.int y), .val (.ref b63), .val (.int (1 : Int32))]) (pc' := 205) C P65 at_203 rfl rfl ?_
              refine k_aload (pc' := 207) C P65 at_205 rfl rfl rfl ?_
              refine k_iload (pc' := 209) C P65 at_207 rfl rfl ?_
              refine k_callV (pc' := 212) (cells' := 7) (slots' := 22) (W := 0) C P65 (C.w 47 rfl) (C.w 48 rfl) (fun _ q => notFace_of_selects (args := #[]) (mvT q (C.w 50 rfl))) (C.w 50 rfl) (C.w 49 rfl) (C.w 51 rfl) (C.w 33 rfl) (by decide) (rmT1 l Z a0 hw _ n0 P65.size b63 b64 b59 b21 y 2 hYe (by decide) k21 (fun i => if i = 0 then Value.ref sa20 else if i = 1 then Value.null else Value.null) F65 f65_b21 rfl) F65.exa [(.int y)] [] rfl (lenOf pd_5 rfl) rfl (Nat.le_of_eq rfl) at_209 rfl (by decide) (by decide) rfl rfl (by decide) (by decide) all0 rfl ?_
              intro T66 h66 v66 P66 K66 Q66
              obtain ⟨e66, g66⟩ := Q66
              subst g66
              subst e66
              show KGo p e below _ T66 m 212 #[.val (.int p0), .val (.int p1), .val (.int p2), .val (.int (0 : Int32)), .val (.int (0 : Int32)), .val (.int (1 : Int32)), .val (.int (1 : Int32)), .val (.ref sa20), .val (.ref b21), .val (.ref b59), .val (.int y), .val (.ref b63), .val (.int (1 : Int32))] [(.int (1 : Int32))]
              refine k_iload (pc' := 214) C P66 at_212 rfl rfl ?_
              refine k_icN (pc' := 217) C P66 at_214 (rfl : (_ : Int32) = _) rfl ?_
              refine k_iconst (z := (1 : Int32)) (pc' := 218) C P66 at_217 rfl rfl ?_
              refine k_goto (pc' := 222) C P66 at_218 (by decide) (by decide) ?_
              exact k_retZ (z' := (1 : Int32)) C P66 (by simp) at_222 rfl (by decide) (by decide) rfl
            · intro (hc191 : y = (1 : Int32))
              have hYe : y.toInt = ((1 : Nat) : Int) := by rw [hc191]; rfl
              refine k_iload (pc' := 196) C P65 at_194 rfl rfl ?_
              refine k_istore (l' := #[.val (.int p0), .val (.int p1), .val (.int p2), .val (.int (0 : Int32)), .val (.int (0 : Int32)), .val (.int (1 : Int32)), .val (.int (1 : Int32)), .val (.ref sa20), .val (.ref b21), .val (.ref b59), .val (.int y), .val (.ref b63), .val (.int (1 : Int32))]) (pc' := 198) C P65 at_196 rfl rfl ?_
              refine k_goto (pc' := 205) C P65 at_198 (by decide) (by decide) ?_
              refine k_aload (pc' := 207) C P65 at_205 rfl rfl rfl ?_
              refine k_iload (pc' := 209) C P65 at_207 rfl rfl ?_
              refine k_callV (pc' := 212) (cells' := 7) (slots' := 22) (W := 0) C P65 (C.w 47 rfl) (C.w 48 rfl) (fun _ q => notFace_of_selects (args := #[]) (mvT q (C.w 50 rfl))) (C.w 50 rfl) (C.w 49 rfl) (C.w 51 rfl) (C.w 33 rfl) (by decide) (rmT1 l Z a0 hw _ n0 P65.size b63 b64 b59 b21 y 1 hYe (by decide) k21 (fun i => if i = 0 then Value.ref sa20 else if i = 1 then Value.null else Value.null) F65 f65_b21 rfl) F65.exa [(.int y)] [] rfl (lenOf pd_5 rfl) rfl (Nat.le_of_eq rfl) at_209 rfl (by decide) (by decide) rfl rfl (by decide) (by decide) all0 rfl ?_
              intro T67 h67 v67 P67 K67 Q67
              obtain ⟨e67, g67⟩ := Q67
              subst g67
              subst e67
              show KGo p e below _ T67 m 212 #[.val (.int p0), .val (.int p1), .val (.int p2), .val (.int (0 : Int32)), .val (.int (0 : Int32)), .val (.int (1 : Int32)), .val (.int (1 : Int32)), .val (.ref sa20), .val (.ref b21), .val (.ref b59), .val (.int y), .val (.ref b63), .val (.int (1 : Int32))] [(.int (1 : Int32))]
              refine k_iload (pc' := 214) C P67 at_212 rfl rfl ?_
              refine k_icN (pc' := 217) C P67 at_214 (rfl : (_ : Int32) = _) rfl ?_
              refine k_iconst (z := (1 : Int32)) (pc' := 218) C P67 at_217 rfl rfl ?_
              refine k_goto (pc' := 222) C P67 at_218 (by decide) (by decide) ?_
              exact k_retZ (z' := (1 : Int32)) C P67 (by simp) at_222 rfl (by decide) (by decide) rfl
          · intro (hc178 : y = (0 : Int32))
            have hYe : y.toInt = ((0 : Nat) : Int) := by rw [hc178]; rfl
            refine k_iload (pc' := 183) C P65 at_181 rfl rfl ?_
            refine k_istore (l' := #[.val (.int p0), .val (.int p1), .val (.int p2), .val (.int (0 : Int32)), .val (.int (0 : Int32)), .val (.int (1 : Int32)), .val (.int (1 : Int32)), .val (.ref sa20), .val (.ref b21), .val (.ref b59), .val (.int y), .val (.ref b63), .val (.int (0 : Int32))]) (pc' := 185) C P65 at_183 rfl rfl ?_
            refine k_goto (pc' := 205) C P65 at_185 (by decide) (by decide) ?_
            refine k_aload (pc' := 207) C P65 at_205 rfl rfl rfl ?_
            refine k_iload (pc' := 209) C P65 at_207 rfl rfl ?_
            refine k_callV (pc' := 212) (cells' := 7) (slots' := 22) (W := 0) C P65 (C.w 47 rfl) (C.w 48 rfl) (fun _ q => notFace_of_selects (args := #[]) (mvT q (C.w 50 rfl))) (C.w 50 rfl) (C.w 49 rfl) (C.w 51 rfl) (C.w 33 rfl) (by decide) (rmT2 l Z a0 hw _ n0 P65.size b63 b64 b59 b21 y 0 hYe (by decide) k21 (fun i => if i = 0 then Value.ref sa20 else if i = 1 then Value.null else Value.null) F65 f65_b21 sa20 rfl) F65.exa [(.int y)] [] rfl (lenOf pd_5 rfl) rfl (Nat.le_of_eq rfl) at_209 rfl (by decide) (by decide) rfl rfl (by decide) (by decide) all0 rfl ?_
            intro T68 h68 v68 P68 K68 Q68
            obtain ⟨e68, g68⟩ := Q68
            subst g68
            subst e68
            show KGo p e below _ T68 m 212 #[.val (.int p0), .val (.int p1), .val (.int p2), .val (.int (0 : Int32)), .val (.int (0 : Int32)), .val (.int (1 : Int32)), .val (.int (1 : Int32)), .val (.ref sa20), .val (.ref b21), .val (.ref b59), .val (.int y), .val (.ref b63), .val (.int (0 : Int32))] [(.int (0 : Int32))]
            refine k_iload (pc' := 214) C P68 at_212 rfl rfl ?_
            refine k_icN (pc' := 217) C P68 at_214 (rfl : (_ : Int32) = _) rfl ?_
            refine k_iconst (z := (1 : Int32)) (pc' := 218) C P68 at_217 rfl rfl ?_
            refine k_goto (pc' := 222) C P68 at_218 (by decide) (by decide) ?_
            exact k_retZ (z' := (1 : Int32)) C P68 (by simp) at_222 rfl (by decide) (by decide) rfl
    · skip
      refine k_iload (pc' := 81) C P21 at_79 rfl rfl ?_
      refine k_ifN (pc' := 84) C P21 at_81 k_10 rfl ?_
      refine k_aconstNull (pc' := 85) C P21 at_84 rfl ?_
      refine k_goto (pc' := 90) C P21 at_85 (by decide) (by decide) ?_
      refine k_aastore (J := 0) (g' := (fun i => if i = 0 then Value.null else if i = 1 then Value.null else Value.null)) (pc' := 91) C P21 V21 rfl (Or.inl rfl) at_90 rfl (by decide) (fun i hi => by match i, hi with | 0, _ => rfl | 1, _ => rfl | 2, _ => rfl) ge_b21 (Or.inr sz_b21) rfl ?_
      intro T69 h69 P69 W69 V69
      have f69_sa20 := f21_sa20.other W69 ne_sa20_b21
      refine k_aload (pc' := 93) C P69 at_91 rfl rfl rfl ?_
      refine k_iconst (z := (1 : Int32)) (pc' := 94) C P69 at_93 rfl rfl ?_
      rcases h_m5 with rfl | rfl
      · skip
        refine k_iload (pc' := 96) C P69 at_94 rfl rfl ?_
        refine k_ifY (pc' := 103) C P69 at_96 k_01 (by decide) (by decide) ?_
        refine k_aload (pc' := 105) C P69 at_103 rfl rfl rfl ?_
        refine k_aastore (J := 1) (g' := (fun i => if i = 0 then Value.null else if i = 1 then Value.ref sa20 else Value.null)) (pc' := 106) C P69 V69 rfl (V69.sto (K1 := "") O21 (Ins.self f69_sa20.exa)) at_105 rfl (by decide) (fun i hi => by match i, hi with | 0, _ => rfl | 1, _ => rfl | 2, _ => rfl) ge_b21 (Or.inr sz_b21) rfl ?_
        intro T70 h70 P70 W70 V70
        have f70_sa20 := f69_sa20.other W70 ne_sa20_b21
        refine k_aload (pc' := 108) C P70 at_106 rfl rfl rfl ?_
        refine k_iconst (z := (2 : Int32)) (pc' := 109) C P70 at_108 rfl rfl ?_
        rcases h_m6 with rfl | rfl
        · skip
          refine k_iload (pc' := 111) C P70 at_109 rfl rfl ?_
          refine k_ifY (pc' := 118) C P70 at_111 k_01 (by decide) (by decide) ?_
          refine k_aload (pc' := 120) C P70 at_118 rfl rfl rfl ?_
          refine k_aastore (J := 2) (g' := (fun i => if i = 0 then Value.null else if i = 1 then Value.ref sa20 else Value.ref sa20)) (pc' := 121) C P70 V70 rfl (V70.sto (K1 := "") O21 (Ins.self f70_sa20.exa)) at_120 rfl (by decide) (fun i hi => by match i, hi with | 0, _ => rfl | 1, _ => rfl | 2, _ => rfl) ge_b21 (Or.inr sz_b21) rfl ?_
          intro T71 h71 P71 W71 V71
          have f71_sa20 := f70_sa20.other W71 ne_sa20_b21
          refine k_iconst (z := (3 : Int32)) (pc' := 122) C P71 at_121 rfl rfl ?_
          refine k_newp (pc' := 124) (cells' := 4) (slots' := 11) (N := 3) (cap := 3) C P71 (C.w 28 rfl) at_122 rfl (by decide) (by decide) rfl rfl (by decide) (by decide) rfl ?_
          intro T72 h72 b72 k72 P72 hs72 ge_b72 sz_b72 E72 V72
          have ne_sa20_b72 : sa20 ≠ b72 := Nat.ne_of_lt (hs72 ▸ f71_sa20.lt)
          have ne_b21_b72 : b21 ≠ b72 := Nat.ne_of_lt (hs72 ▸ V71.lt)
          have f72_sa20 := f71_sa20.ext E72
          have f72_b21 := V71.ext E72
          refine k_astore (l' := #[.val (.int p0), .val (.int p1), .val (.int p2), .val (.int (0 : Int32)), .val (.int (1 : Int32)), .val (.int (0 : Int32)), .val (.int (0 : Int32)), .val (.ref sa20), .val (.ref b21), .val (.ref b72), .unset, .unset, .unset]) (pc' := 126) C P72 at_124 rfl rfl rfl ?_
          refine k_aload (pc' := 128) C P72 at_126 rfl rfl rfl ?_
          refine k_iconst (z := (0 : Int32)) (pc' := 129) C P72 at_128 rfl rfl ?_
          refine k_dconst0 (z := (0 : UInt64)) (pc' := 130) C P72 at_129 rfl rfl ?_
          refine k_dastore (J := 0) (g' := (fun i => .double (if i = 0 then (0 : UInt64) else if i = 1 then 0 else 0))) (pc' := 131) C P72 V72 at_130 rfl (by decide) (fun i hi => by match i, hi with | 0, _ => rfl | 1, _ => rfl | 2, _ => rfl) ge_b72 (Or.inr sz_b72) rfl ?_
          intro T73 h73 P73 W73 V73
          have f73_sa20 := f72_sa20.other W73 ne_sa20_b72
          have f73_b21 := f72_b21.other W73 ne_b21_b72
          refine k_aload (pc' := 133) C P73 at_131 rfl rfl rfl ?_
          refine k_iconst (z := (1 : Int32)) (pc' := 134) C P73 at_133 rfl rfl ?_
          refine k_dconst1 (z := (4607182418800017408 : UInt64)) (pc' := 135) C P73 at_134 rfl rfl ?_
          refine k_dastore (J := 1) (g' := (fun i => .double (if i = 0 then (0 : UInt64) else if i = 1 then (4607182418800017408 : UInt64) else 0))) (pc' := 136) C P73 V73 at_135 rfl (by decide) (fun i hi => by match i, hi with | 0, _ => rfl | 1, _ => rfl | 2, _ => rfl) ge_b72 (Or.inr sz_b72) rfl ?_
          intro T74 h74 P74 W74 V74
          have f74_sa20 := f73_sa20.other W74 ne_sa20_b72
          have f74_b21 := f73_b21.other W74 ne_b21_b72
          refine k_aload (pc' := 138) C P74 at_136 rfl rfl rfl ?_
          refine k_iconst (z := (2 : Int32)) (pc' := 139) C P74 at_138 rfl rfl ?_
          refine k_ldc2D (pc' := 142) C P74 (C.w 29 rfl) at_139 rfl ?_
          refine k_dastore (J := 2) (g' := (fun i => .double (if i = 0 then (0 : UInt64) else if i = 1 then (4607182418800017408 : UInt64) else (4611686018427387904 : UInt64)))) (pc' := 143) C P74 V74 at_142 rfl (by decide) (fun i hi => by match i, hi with | 0, _ => rfl | 1, _ => rfl | 2, _ => rfl) ge_b72 (Or.inr sz_b72) rfl ?_
          intro T75 h75 P75 W75 V75
          have f75_sa20 := f74_sa20.other W75 ne_sa20_b72
          have f75_b21 := f74_b21.other W75 ne_b21_b72
          refine k_iloadN (pc' := 144) C P75 at_143 rfl rfl ?_
          refine k_ldcI (pc' := 146) C P75 (C.w 30 rfl) at_144 rfl ?_
          refine k_iand (pc' := 147) C P75 at_146 rfl ?_
          refine k_iconst (z := (3 : Int32)) (pc' := 148) C P75 at_147 rfl rfl ?_
          refine k_irem (pc' := 149) C P75 at_148 (by decide) rfl ?_
          obtain ⟨y, e_y⟩ : ∃ z, z = ((p1 &&& (2147483647 : Int32)) % (3 : Int32)) := ⟨_, rfl⟩
          rw [← e_y]
          obtain ⟨Y, hY, hY3⟩ : ∃ Y : Nat, y.toInt = (Y : Int) ∧ Y < 3 := by rw [e_y]; exact own_q p1
          refine k_istore (l' := #[.val (.int p0), .val (.int p1), .val (.int p2), .val (.int (0 : Int32)), .val (.int (1 : Int32)), .val (.int (0 : Int32)), .val (.int (0 : Int32)), .val (.ref sa20), .val (.ref b21), .val (.ref b72), .val (.int y), .unset, .unset]) (pc' := 151) C P75 at_149 rfl rfl ?_
          refine k_newo (pc' := 154) (cells' := 5) (slots' := 14) C P75 (C.w 31 rfl) (C.w 32 rfl) (C.w 33 rfl) at_151 rfl rfl (by decide) (by decide) rfl ?_
          intro T76 h76 b76 P76 hs76 ge_b76 sz_b76 E76 A76 D76
          have ne_sa20_b76 : sa20 ≠ b76 := Nat.ne_of_lt (hs76 ▸ f75_sa20.lt)
          have ne_b21_b76 : b21 ≠ b76 := Nat.ne_of_lt (hs76 ▸ f75_b21.lt)
          have ne_b72_b76 : b72 ≠ b76 := Nat.ne_of_lt (hs76 ▸ V75.lt)
          have f76_sa20 := f75_sa20.ext E76
          have f76_b21 := f75_b21.ext E76
          have f76_b72 := V75.ext E76
          have f76_b76 : KOb Z h76 b76 "com/example/pactline/pactline/model/Service" layV [.null, .null, .null] := KOb.new A76 D76 (lokV C.hw) (by decide +kernel)
          refine k_dup (pc' := 155) C P76 at_154 rfl rfl ?_
          refine k_ldcS (pc' := 157) (n := 4) (cells' := 7) (slots' := 22) C P76 (C.w 34 rfl) (own_sa C.hw) at_155 (by decide) (by decide) rfl rfl (by decide) (by decide) rfl ?_
          intro T77 h77 b77 P77 E77
          have f77_sa20 := f76_sa20.ext E77
          have f77_b21 := f76_b21.ext E77
          have f77_b72 := f76_b72.ext E77
          have f77_b76 := f76_b76.ext E77
          refine k_aload (pc' := 159) C P77 at_157 rfl rfl rfl ?_
          refine k_aload (pc' := 161) C P77 at_159 rfl rfl rfl ?_
          refine k_callN (pc' := 164) (cells' := 7) (slots' := 22) (W := 1) C P77 rfl (C.w 37 rfl) (C.w 38 rfl) (C.w 39 rfl) (C.w 33 rfl) (by decide) (rmSv l Z a0 hw _ n0 P77.size b76 b77 b72 (.ref b21) rfl ge_b76 f77_b76) b76 [(.ref b77), (.ref b72), (.ref b21)] [(.ref b76)] rfl (lenOf pd_4 rfl) rfl (Nat.le_of_eq rfl) at_161 rfl (by decide) (by decide) rfl rfl (by decide) (by decide) (allS (Or.inr sz_b76) all0) rfl ?_
          intro T78 h78 v78 P78 K78 Q78
          obtain ⟨rfl, F78⟩ := Q78
          have f78_sa20 := f77_sa20.keep K78 (ninS ne_sa20_b76 nin0)
          have f78_b21 := f77_b21.keep K78 (ninS ne_b21_b76 nin0)
          have f78_b72 := f77_b72.keep K78 (ninS ne_b72_b76 nin0)
          show KGo p e below _ T78 m 164 #[.val (.int p0), .val (.int p1), .val (.int p2), .val (.int (0 : Int32)), .val (.int (1 : Int32)), .val (.int (0 : Int32)), .val (.int (0 : Int32)), .val (.ref sa20), .val (.ref b21), .val (.ref b72), .val (.int y), .unset, .unset] [(.ref b76)]
          refine k_astore (l' := #[.val (.int p0), .val (.int p1), .val (.int p2), .val (.int (0 : Int32)), .val (.int (1 : Int32)), .val (.int (0 : Int32)), .val (.int (0 : Int32)), .val (.ref sa20), .val (.ref b21), .val (.ref b72), .val (.int y), .val (.ref b76), .unset]) (pc' := 166) C P78 at_164 rfl rfl rfl ?_
          refine k_iloadN (pc' := 167) C P78 at_166 rfl rfl ?_
          refine k_ifY (pc' := 176) C P78 at_167 k_01 (by decide) (by decide) ?_
          refine k_iload (pc' := 178) C P78 at_176 rfl rfl ?_
          refine k_ifB (pcY := 188) (pcN := 181) C P78 at_178 (by decide) (by decide) rfl ?_ ?_
          · intro (hc178 : ¬ y = (0 : Int32))
            refine k_iload (pc' := 190) C P78 at_188 rfl rfl ?_
            refine k_iconst (z := (1 : Int32)) (pc' := 191) C P78 at_190 rfl rfl ?_
            refine k_icB (pcY := 201) (pcN := 194) C P78 at_191 (by decide) (by decide) rfl ?_ ?_
            · intro (hc191 : ¬ y = (1 : Int32))
              have hYe : y.toInt = ((2 : Nat) : Int) := own_two hY hY3 hc178 hc191
              refine k_iload (pc' := 203) C P78 at_201 rfl rfl ?_
              refine k_istore (l' := #[.val (.int p0), .val (.int p1), .val (.int p2), .val (.int (0 : Int32)), .val (.int (1 : Int32)), .val (.int (0 : Int32)), .val (.int (0 : Int32)), .val (.ref sa20), .val (.ref b21), .val (.ref b72), .val (.int y), .val (.ref b76), .val (.int (0 : Int32))]) (pc' := 205) C P78 at_203 rfl rfl ?_
              refine k_aload (pc' := 207) C P78 at_205 rfl rfl rfl ?_
              refine k_iload (pc' := 209) C P78 at_207 rfl rfl ?_
              refine k_callV (pc' := 212) (cells' := 7) (slots' := 22) (W := 0) C P78 (C.w 47 rfl) (C.w 48 rfl) (fun _ q => notFace_of_selects (args := #[]) (mvT q (C.w 50 rfl))) (C.w 50 rfl) (C.w 49 rfl) (C.w 51 rfl) (C.w 33 rfl) (by decide) (rmT2 l Z a0 hw _ n0 P78.size b76 b77 b72 b21 y 2 hYe (by decide) k21 (fun i => if i = 0 then Value.null else if i = 1 then Value.ref sa20 else Value.ref sa20) F78 f78_b21 sa20 rfl) F78.exa [(.int y)] [] rfl (lenOf pd_5 rfl) rfl (Nat.le_of_eq rfl) at_209 rfl (by decide) (by decide) rfl rfl (by decide) (by decide) all0 rfl ?_
              intro T79 h79 v79 P79 K79 Q79
              obtain ⟨e79, g79⟩ := Q79
              subst g79
              subst e79
              show KGo p e below _ T79 m 212 #[.val (.int p0), .val (.int p1), .val (.int p2), .val (.int (0 : Int32)), .val (.int (1 : Int32)), .val (.int (0 : Int32)), .val (.int (0 : Int32)), .val (.ref sa20), .val (.ref b21), .val (.ref b72), .val (.int y), .val (.ref b76), .val (.int (0 : Int32))] [(.int (0 : Int32))]
              refine k_iload (pc' := 214) C P79 at_212 rfl rfl ?_
              refine k_icN (pc' := 217) C P79 at_214 (rfl : (_ : Int32) = _) rfl ?_
              refine k_iconst (z := (1 : Int32)) (pc' := 218) C P79 at_217 rfl rfl ?_
              refine k_goto (pc' := 222) C P79 at_218 (by decide) (by decide) ?_
              exact k_retZ (z' := (1 : Int32)) C P79 (by simp) at_222 rfl (by decide) (by decide) rfl
            · intro (hc191 : y = (1 : Int32))
              have hYe : y.toInt = ((1 : Nat) : Int) := by rw [hc191]; rfl
              refine k_iload (pc' := 196) C P78 at_194 rfl rfl ?_
              refine k_istore (l' := #[.val (.int p0), .val (.int p1), .val (.int p2), .val (.int (0 : Int32)), .val (.int (1 : Int32)), .val (.int (0 : Int32)), .val (.int (0 : Int32)), .val (.ref sa20), .val (.ref b21), .val (.ref b72), .val (.int y), .val (.ref b76), .val (.int (0 : Int32))]) (pc' := 198) C P78 at_196 rfl rfl ?_
              refine k_goto (pc' := 205) C P78 at_198 (by decide) (by decide) ?_
              refine k_aload (pc' := 207) C P78 at_205 rfl rfl rfl ?_
              refine k_iload (pc' := 209) C P78 at_207 rfl rfl ?_
              refine k_callV (pc' := 212) (cells' := 7) (slots' := 22) (W := 0) C P78 (C.w 47 rfl) (C.w 48 rfl) (fun _ q => notFace_of_selects (args := #[]) (mvT q (C.w 50 rfl))) (C.w 50 rfl) (C.w 49 rfl) (C.w 51 rfl) (C.w 33 rfl) (by decide) (rmT2 l Z a0 hw _ n0 P78.size b76 b77 b72 b21 y 1 hYe (by decide) k21 (fun i => if i = 0 then Value.null else if i = 1 then Value.ref sa20 else Value.ref sa20) F78 f78_b21 sa20 rfl) F78.exa [(.int y)] [] rfl (lenOf pd_5 rfl) rfl (Nat.le_of_eq rfl) at_209 rfl (by decide) (by decide) rfl rfl (by decide) (by decide) all0 rfl ?_
              intro T80 h80 v80 P80 K80 Q80
              obtain ⟨e80, g80⟩ := Q80
              subst g80
              subst e80
              show KGo p e below _ T80 m 212 #[.val (.int p0), .val (.int p1), .val (.int p2), .val (.int (0 : Int32)), .val (.int (1 : Int32)), .val (.int (0 : Int32)), .val (.int (0 : Int32)), .val (.ref sa20), .val (.ref b21), .val (.ref b72), .val (.int y), .val (.ref b76), .val (.int (0 : Int32))] [(.int (0 : Int32))]
              refine k_iload (pc' := 214) C P80 at_212 rfl rfl ?_
              refine k_icN (pc' := 217) C P80 at_214 (rfl : (_ : Int32) = _) rfl ?_
              refine k_iconst (z := (1 : Int32)) (pc' := 218) C P80 at_217 rfl rfl ?_
              refine k_goto (pc' := 222) C P80 at_218 (by decide) (by decide) ?_
              exact k_retZ (z' := (1 : Int32)) C P80 (by simp) at_222 rfl (by decide) (by decide) rfl
          · intro (hc178 : y = (0 : Int32))
            have hYe : y.toInt = ((0 : Nat) : Int) := by rw [hc178]; rfl
            refine k_iload (pc' := 183) C P78 at_181 rfl rfl ?_
            refine k_istore (l' := #[.val (.int p0), .val (.int p1), .val (.int p2), .val (.int (0 : Int32)), .val (.int (1 : Int32)), .val (.int (0 : Int32)), .val (.int (0 : Int32)), .val (.ref sa20), .val (.ref b21), .val (.ref b72), .val (.int y), .val (.ref b76), .val (.int (1 : Int32))]) (pc' := 185) C P78 at_183 rfl rfl ?_
            refine k_goto (pc' := 205) C P78 at_185 (by decide) (by decide) ?_
            refine k_aload (pc' := 207) C P78 at_205 rfl rfl rfl ?_
            refine k_iload (pc' := 209) C P78 at_207 rfl rfl ?_
            refine k_callV (pc' := 212) (cells' := 7) (slots' := 22) (W := 0) C P78 (C.w 47 rfl) (C.w 48 rfl) (fun _ q => notFace_of_selects (args := #[]) (mvT q (C.w 50 rfl))) (C.w 50 rfl) (C.w 49 rfl) (C.w 51 rfl) (C.w 33 rfl) (by decide) (rmT1 l Z a0 hw _ n0 P78.size b76 b77 b72 b21 y 0 hYe (by decide) k21 (fun i => if i = 0 then Value.null else if i = 1 then Value.ref sa20 else Value.ref sa20) F78 f78_b21 rfl) F78.exa [(.int y)] [] rfl (lenOf pd_5 rfl) rfl (Nat.le_of_eq rfl) at_209 rfl (by decide) (by decide) rfl rfl (by decide) (by decide) all0 rfl ?_
            intro T81 h81 v81 P81 K81 Q81
            obtain ⟨e81, g81⟩ := Q81
            subst g81
            subst e81
            show KGo p e below _ T81 m 212 #[.val (.int p0), .val (.int p1), .val (.int p2), .val (.int (0 : Int32)), .val (.int (1 : Int32)), .val (.int (0 : Int32)), .val (.int (0 : Int32)), .val (.ref sa20), .val (.ref b21), .val (.ref b72), .val (.int y), .val (.ref b76), .val (.int (1 : Int32))] [(.int (1 : Int32))]
            refine k_iload (pc' := 214) C P81 at_212 rfl rfl ?_
            refine k_icN (pc' := 217) C P81 at_214 (rfl : (_ : Int32) = _) rfl ?_
            refine k_iconst (z := (1 : Int32)) (pc' := 218) C P81 at_217 rfl rfl ?_
            refine k_goto (pc' := 222) C P81 at_218 (by decide) (by decide) ?_
            exact k_retZ (z' := (1 : Int32)) C P81 (by simp) at_222 rfl (by decide) (by decide) rfl
        · skip
          refine k_iload (pc' := 111) C P70 at_109 rfl rfl ?_
          refine k_ifN (pc' := 114) C P70 at_111 k_10 rfl ?_
          refine k_aconstNull (pc' := 115) C P70 at_114 rfl ?_
          refine k_goto (pc' := 120) C P70 at_115 (by decide) (by decide) ?_
          refine k_aastore (J := 2) (g' := (fun i => if i = 0 then Value.null else if i = 1 then Value.ref sa20 else Value.null)) (pc' := 121) C P70 V70 rfl (Or.inl rfl) at_120 rfl (by decide) (fun i hi => by match i, hi with | 0, _ => rfl | 1, _ => rfl | 2, _ => rfl) ge_b21 (Or.inr sz_b21) rfl ?_
          intro T82 h82 P82 W82 V82
          have f82_sa20 := f70_sa20.other W82 ne_sa20_b21
          refine k_iconst (z := (3 : Int32)) (pc' := 122) C P82 at_121 rfl rfl ?_
          refine k_newp (pc' := 124) (cells' := 4) (slots' := 11) (N := 3) (cap := 3) C P82 (C.w 28 rfl) at_122 rfl (by decide) (by decide) rfl rfl (by decide) (by decide) rfl ?_
          intro T83 h83 b83 k83 P83 hs83 ge_b83 sz_b83 E83 V83
          have ne_sa20_b83 : sa20 ≠ b83 := Nat.ne_of_lt (hs83 ▸ f82_sa20.lt)
          have ne_b21_b83 : b21 ≠ b83 := Nat.ne_of_lt (hs83 ▸ V82.lt)
          have f83_sa20 := f82_sa20.ext E83
          have f83_b21 := V82.ext E83
          refine k_astore (l' := #[.val (.int p0), .val (.int p1), .val (.int p2), .val (.int (0 : Int32)), .val (.int (1 : Int32)), .val (.int (0 : Int32)), .val (.int (1 : Int32)), .val (.ref sa20), .val (.ref b21), .val (.ref b83), .unset, .unset, .unset]) (pc' := 126) C P83 at_124 rfl rfl rfl ?_
          refine k_aload (pc' := 128) C P83 at_126 rfl rfl rfl ?_
          refine k_iconst (z := (0 : Int32)) (pc' := 129) C P83 at_128 rfl rfl ?_
          refine k_dconst0 (z := (0 : UInt64)) (pc' := 130) C P83 at_129 rfl rfl ?_
          refine k_dastore (J := 0) (g' := (fun i => .double (if i = 0 then (0 : UInt64) else if i = 1 then 0 else 0))) (pc' := 131) C P83 V83 at_130 rfl (by decide) (fun i hi => by match i, hi with | 0, _ => rfl | 1, _ => rfl | 2, _ => rfl) ge_b83 (Or.inr sz_b83) rfl ?_
          intro T84 h84 P84 W84 V84
          have f84_sa20 := f83_sa20.other W84 ne_sa20_b83
          have f84_b21 := f83_b21.other W84 ne_b21_b83
          refine k_aload (pc' := 133) C P84 at_131 rfl rfl rfl ?_
          refine k_iconst (z := (1 : Int32)) (pc' := 134) C P84 at_133 rfl rfl ?_
          refine k_dconst1 (z := (4607182418800017408 : UInt64)) (pc' := 135) C P84 at_134 rfl rfl ?_
          refine k_dastore (J := 1) (g' := (fun i => .double (if i = 0 then (0 : UInt64) else if i = 1 then (4607182418800017408 : UInt64) else 0))) (pc' := 136) C P84 V84 at_135 rfl (by decide) (fun i hi => by match i, hi with | 0, _ => rfl | 1, _ => rfl | 2, _ => rfl) ge_b83 (Or.inr sz_b83) rfl ?_
          intro T85 h85 P85 W85 V85
          have f85_sa20 := f84_sa20.other W85 ne_sa20_b83
          have f85_b21 := f84_b21.other W85 ne_b21_b83
          refine k_aload (pc' := 138) C P85 at_136 rfl rfl rfl ?_
          refine k_iconst (z := (2 : Int32)) (pc' := 139) C P85 at_138 rfl rfl ?_
          refine k_ldc2D (pc' := 142) C P85 (C.w 29 rfl) at_139 rfl ?_
          refine k_dastore (J := 2) (g' := (fun i => .double (if i = 0 then (0 : UInt64) else if i = 1 then (4607182418800017408 : UInt64) else (4611686018427387904 : UInt64)))) (pc' := 143) C P85 V85 at_142 rfl (by decide) (fun i hi => by match i, hi with | 0, _ => rfl | 1, _ => rfl | 2, _ => rfl) ge_b83 (Or.inr sz_b83) rfl ?_
          intro T86 h86 P86 W86 V86
          have f86_sa20 := f85_sa20.other W86 ne_sa20_b83
          have f86_b21 := f85_b21.other W86 ne_b21_b83
          refine k_iloadN (pc' := 144) C P86 at_143 rfl rfl ?_
          refine k_ldcI (pc' := 146) C P86 (C.w 30 rfl) at_144 rfl ?_
          refine k_iand (pc' := 147) C P86 at_146 rfl ?_
          refine k_iconst (z := (3 : Int32)) (pc' := 148) C P86 at_147 rfl rfl ?_
          refine k_irem (pc' := 149) C P86 at_148 (by decide) rfl ?_
          obtain ⟨y, e_y⟩ : ∃ z, z = ((p1 &&& (2147483647 : Int32)) % (3 : Int32)) := ⟨_, rfl⟩
          rw [← e_y]
          obtain ⟨Y, hY, hY3⟩ : ∃ Y : Nat, y.toInt = (Y : Int) ∧ Y < 3 := by rw [e_y]; exact own_q p1
          refine k_istore (l' := #[.val (.int p0), .val (.int p1), .val (.int p2), .val (.int (0 : Int32)), .val (.int (1 : Int32)), .val (.int (0 : Int32)), .val (.int (1 : Int32)), .val (.ref sa20), .val (.ref b21), .val (.ref b83), .val (.int y), .unset, .unset]) (pc' := 151) C P86 at_149 rfl rfl ?_
          refine k_newo (pc' := 154) (cells' := 5) (slots' := 14) C P86 (C.w 31 rfl) (C.w 32 rfl) (C.w 33 rfl) at_151 rfl rfl (by decide) (by decide) rfl ?_
          intro T87 h87 b87 P87 hs87 ge_b87 sz_b87 E87 A87 D87
          have ne_sa20_b87 : sa20 ≠ b87 := Nat.ne_of_lt (hs87 ▸ f86_sa20.lt)
          have ne_b21_b87 : b21 ≠ b87 := Nat.ne_of_lt (hs87 ▸ f86_b21.lt)
          have ne_b83_b87 : b83 ≠ b87 := Nat.ne_of_lt (hs87 ▸ V86.lt)
          have f87_sa20 := f86_sa20.ext E87
          have f87_b21 := f86_b21.ext E87
          have f87_b83 := V86.ext E87
          have f87_b87 : KOb Z h87 b87 "com/example/pactline/pactline/model/Service" layV [.null, .null, .null] := KOb.new A87 D87 (lokV C.hw) (by decide +kernel)
          refine k_dup (pc' := 155) C P87 at_154 rfl rfl ?_
          refine k_ldcS (pc' := 157) (n := 4) (cells' := 7) (slots' := 22) C P87 (C.w 34 rfl) (own_sa C.hw) at_155 (by decide) (by decide) rfl rfl (by decide) (by decide) rfl ?_
          intro T88 h88 b88 P88 E88
          have f88_sa20 := f87_sa20.ext E88
          have f88_b21 := f87_b21.ext E88
          have f88_b83 := f87_b83.ext E88
          have f88_b87 := f87_b87.ext E88
          refine k_aload (pc' := 159) C P88 at_157 rfl rfl rfl ?_
          refine k_aload (pc' := 161) C P88 at_159 rfl rfl rfl ?_
          refine k_callN (pc' := 164) (cells' := 7) (slots' := 22) (W := 1) C P88 rfl (C.w 37 rfl) (C.w 38 rfl) (C.w 39 rfl) (C.w 33 rfl) (by decide) (rmSv l Z a0 hw _ n0 P88.size b87 b88 b83 (.ref b21) rfl ge_b87 f88_b87) b87 [(.ref b88), (.ref b83), (.ref b21)] [(.ref b87)] rfl (lenOf pd_4 rfl) rfl (Nat.le_of_eq rfl) at_161 rfl (by decide) (by decide) rfl rfl (by decide) (by decide) (allS (Or.inr sz_b87) all0) rfl ?_
          intro T89 h89 v89 P89 K89 Q89
          obtain ⟨rfl, F89⟩ := Q89
          have f89_sa20 := f88_sa20.keep K89 (ninS ne_sa20_b87 nin0)
          have f89_b21 := f88_b21.keep K89 (ninS ne_b21_b87 nin0)
          have f89_b83 := f88_b83.keep K89 (ninS ne_b83_b87 nin0)
          show KGo p e below _ T89 m 164 #[.val (.int p0), .val (.int p1), .val (.int p2), .val (.int (0 : Int32)), .val (.int (1 : Int32)), .val (.int (0 : Int32)), .val (.int (1 : Int32)), .val (.ref sa20), .val (.ref b21), .val (.ref b83), .val (.int y), .unset, .unset] [(.ref b87)]
          refine k_astore (l' := #[.val (.int p0), .val (.int p1), .val (.int p2), .val (.int (0 : Int32)), .val (.int (1 : Int32)), .val (.int (0 : Int32)), .val (.int (1 : Int32)), .val (.ref sa20), .val (.ref b21), .val (.ref b83), .val (.int y), .val (.ref b87), .unset]) (pc' := 166) C P89 at_164 rfl rfl rfl ?_
          refine k_iloadN (pc' := 167) C P89 at_166 rfl rfl ?_
          refine k_ifY (pc' := 176) C P89 at_167 k_01 (by decide) (by decide) ?_
          refine k_iload (pc' := 178) C P89 at_176 rfl rfl ?_
          refine k_ifB (pcY := 188) (pcN := 181) C P89 at_178 (by decide) (by decide) rfl ?_ ?_
          · intro (hc178 : ¬ y = (0 : Int32))
            refine k_iload (pc' := 190) C P89 at_188 rfl rfl ?_
            refine k_iconst (z := (1 : Int32)) (pc' := 191) C P89 at_190 rfl rfl ?_
            refine k_icB (pcY := 201) (pcN := 194) C P89 at_191 (by decide) (by decide) rfl ?_ ?_
            · intro (hc191 : ¬ y = (1 : Int32))
              have hYe : y.toInt = ((2 : Nat) : Int) := own_two hY hY3 hc178 hc191
              refine k_iload (pc' := 203) C P89 at_201 rfl rfl ?_
              refine k_istore (l' := #[.val (.int p0), .val (.int p1), .val (.int p2), .val (.int (0 : Int32)), .val (.int (1 : Int32)), .val (.int (0 : Int32)), .val (.int (1 : Int32)), .val (.ref sa20), .val (.ref b21), .val (.ref b83), .val (.int y), .val (.ref b87), .val (.int (1 : Int32))]) (pc' := 205) C P89 at_203 rfl rfl ?_
              refine k_aload (pc' := 207) C P89 at_205 rfl rfl rfl ?_
              refine k_iload (pc' := 209) C P89 at_207 rfl rfl ?_
              refine k_callV (pc' := 212) (cells' := 7) (slots' := 22) (W := 0) C P89 (C.w 47 rfl) (C.w 48 rfl) (fun _ q => notFace_of_selects (args := #[]) (mvT q (C.w 50 rfl))) (C.w 50 rfl) (C.w 49 rfl) (C.w 51 rfl) (C.w 33 rfl) (by decide) (rmT1 l Z a0 hw _ n0 P89.size b87 b88 b83 b21 y 2 hYe (by decide) k21 (fun i => if i = 0 then Value.null else if i = 1 then Value.ref sa20 else Value.null) F89 f89_b21 rfl) F89.exa [(.int y)] [] rfl (lenOf pd_5 rfl) rfl (Nat.le_of_eq rfl) at_209 rfl (by decide) (by decide) rfl rfl (by decide) (by decide) all0 rfl ?_
              intro T90 h90 v90 P90 K90 Q90
              obtain ⟨e90, g90⟩ := Q90
              subst g90
              subst e90
              show KGo p e below _ T90 m 212 #[.val (.int p0), .val (.int p1), .val (.int p2), .val (.int (0 : Int32)), .val (.int (1 : Int32)), .val (.int (0 : Int32)), .val (.int (1 : Int32)), .val (.ref sa20), .val (.ref b21), .val (.ref b83), .val (.int y), .val (.ref b87), .val (.int (1 : Int32))] [(.int (1 : Int32))]
              refine k_iload (pc' := 214) C P90 at_212 rfl rfl ?_
              refine k_icN (pc' := 217) C P90 at_214 (rfl : (_ : Int32) = _) rfl ?_
              refine k_iconst (z := (1 : Int32)) (pc' := 218) C P90 at_217 rfl rfl ?_
              refine k_goto (pc' := 222) C P90 at_218 (by decide) (by decide) ?_
              exact k_retZ (z' := (1 : Int32)) C P90 (by simp) at_222 rfl (by decide) (by decide) rfl
            · intro (hc191 : y = (1 : Int32))
              have hYe : y.toInt = ((1 : Nat) : Int) := by rw [hc191]; rfl
              refine k_iload (pc' := 196) C P89 at_194 rfl rfl ?_
              refine k_istore (l' := #[.val (.int p0), .val (.int p1), .val (.int p2), .val (.int (0 : Int32)), .val (.int (1 : Int32)), .val (.int (0 : Int32)), .val (.int (1 : Int32)), .val (.ref sa20), .val (.ref b21), .val (.ref b83), .val (.int y), .val (.ref b87), .val (.int (0 : Int32))]) (pc' := 198) C P89 at_196 rfl rfl ?_
              refine k_goto (pc' := 205) C P89 at_198 (by decide) (by decide) ?_
              refine k_aload (pc' := 207) C P89 at_205 rfl rfl rfl ?_
              refine k_iload (pc' := 209) C P89 at_207 rfl rfl ?_
              refine k_callV (pc' := 212) (cells' := 7) (slots' := 22) (W := 0) C P89 (C.w 47 rfl) (C.w 48 rfl) (fun _ q => notFace_of_selects (args := #[]) (mvT q (C.w 50 rfl))) (C.w 50 rfl) (C.w 49 rfl) (C.w 51 rfl) (C.w 33 rfl) (by decide) (rmT2 l Z a0 hw _ n0 P89.size b87 b88 b83 b21 y 1 hYe (by decide) k21 (fun i => if i = 0 then Value.null else if i = 1 then Value.ref sa20 else Value.null) F89 f89_b21 sa20 rfl) F89.exa [(.int y)] [] rfl (lenOf pd_5 rfl) rfl (Nat.le_of_eq rfl) at_209 rfl (by decide) (by decide) rfl rfl (by decide) (by decide) all0 rfl ?_
              intro T91 h91 v91 P91 K91 Q91
              obtain ⟨e91, g91⟩ := Q91
              subst g91
              subst e91
              show KGo p e below _ T91 m 212 #[.val (.int p0), .val (.int p1), .val (.int p2), .val (.int (0 : Int32)), .val (.int (1 : Int32)), .val (.int (0 : Int32)), .val (.int (1 : Int32)), .val (.ref sa20), .val (.ref b21), .val (.ref b83), .val (.int y), .val (.ref b87), .val (.int (0 : Int32))] [(.int (0 : Int32))]
              refine k_iload (pc' := 214) C P91 at_212 rfl rfl ?_
              refine k_icN (pc' := 217) C P91 at_214 (rfl : (_ : Int32) = _) rfl ?_
              refine k_iconst (z := (1 : Int32)) (pc' := 218) C P91 at_217 rfl rfl ?_
              refine k_goto (pc' := 222) C P91 at_218 (by decide) (by decide) ?_
              exact k_retZ (z' := (1 : Int32)) C P91 (by simp) at_222 rfl (by decide) (by decide) rfl
          · intro (hc178 : y = (0 : Int32))
            have hYe : y.toInt = ((0 : Nat) : Int) := by rw [hc178]; rfl
            refine k_iload (pc' := 183) C P89 at_181 rfl rfl ?_
            refine k_istore (l' := #[.val (.int p0), .val (.int p1), .val (.int p2), .val (.int (0 : Int32)), .val (.int (1 : Int32)), .val (.int (0 : Int32)), .val (.int (1 : Int32)), .val (.ref sa20), .val (.ref b21), .val (.ref b83), .val (.int y), .val (.ref b87), .val (.int (1 : Int32))]) (pc' := 185) C P89 at_183 rfl rfl ?_
            refine k_goto (pc' := 205) C P89 at_185 (by decide) (by decide) ?_
            refine k_aload (pc' := 207) C P89 at_205 rfl rfl rfl ?_
            refine k_iload (pc' := 209) C P89 at_207 rfl rfl ?_
            refine k_callV (pc' := 212) (cells' := 7) (slots' := 22) (W := 0) C P89 (C.w 47 rfl) (C.w 48 rfl) (fun _ q => notFace_of_selects (args := #[]) (mvT q (C.w 50 rfl))) (C.w 50 rfl) (C.w 49 rfl) (C.w 51 rfl) (C.w 33 rfl) (by decide) (rmT1 l Z a0 hw _ n0 P89.size b87 b88 b83 b21 y 0 hYe (by decide) k21 (fun i => if i = 0 then Value.null else if i = 1 then Value.ref sa20 else Value.null) F89 f89_b21 rfl) F89.exa [(.int y)] [] rfl (lenOf pd_5 rfl) rfl (Nat.le_of_eq rfl) at_209 rfl (by decide) (by decide) rfl rfl (by decide) (by decide) all0 rfl ?_
            intro T92 h92 v92 P92 K92 Q92
            obtain ⟨e92, g92⟩ := Q92
            subst g92
            subst e92
            show KGo p e below _ T92 m 212 #[.val (.int p0), .val (.int p1), .val (.int p2), .val (.int (0 : Int32)), .val (.int (1 : Int32)), .val (.int (0 : Int32)), .val (.int (1 : Int32)), .val (.ref sa20), .val (.ref b21), .val (.ref b83), .val (.int y), .val (.ref b87), .val (.int (1 : Int32))] [(.int (1 : Int32))]
            refine k_iload (pc' := 214) C P92 at_212 rfl rfl ?_
            refine k_icN (pc' := 217) C P92 at_214 (rfl : (_ : Int32) = _) rfl ?_
            refine k_iconst (z := (1 : Int32)) (pc' := 218) C P92 at_217 rfl rfl ?_
            refine k_goto (pc' := 222) C P92 at_218 (by decide) (by decide) ?_
            exact k_retZ (z' := (1 : Int32)) C P92 (by simp) at_222 rfl (by decide) (by decide) rfl
      · skip
        refine k_iload (pc' := 96) C P69 at_94 rfl rfl ?_
        refine k_ifN (pc' := 99) C P69 at_96 k_10 rfl ?_
        refine k_aconstNull (pc' := 100) C P69 at_99 rfl ?_
        refine k_goto (pc' := 105) C P69 at_100 (by decide) (by decide) ?_
        refine k_aastore (J := 1) (g' := (fun i => if i = 0 then Value.null else if i = 1 then Value.null else Value.null)) (pc' := 106) C P69 V69 rfl (Or.inl rfl) at_105 rfl (by decide) (fun i hi => by match i, hi with | 0, _ => rfl | 1, _ => rfl | 2, _ => rfl) ge_b21 (Or.inr sz_b21) rfl ?_
        intro T93 h93 P93 W93 V93
        have f93_sa20 := f69_sa20.other W93 ne_sa20_b21
        refine k_aload (pc' := 108) C P93 at_106 rfl rfl rfl ?_
        refine k_iconst (z := (2 : Int32)) (pc' := 109) C P93 at_108 rfl rfl ?_
        rcases h_m6 with rfl | rfl
        · skip
          refine k_iload (pc' := 111) C P93 at_109 rfl rfl ?_
          refine k_ifY (pc' := 118) C P93 at_111 k_01 (by decide) (by decide) ?_
          refine k_aload (pc' := 120) C P93 at_118 rfl rfl rfl ?_
          refine k_aastore (J := 2) (g' := (fun i => if i = 0 then Value.null else if i = 1 then Value.null else Value.ref sa20)) (pc' := 121) C P93 V93 rfl (V93.sto (K1 := "") O21 (Ins.self f93_sa20.exa)) at_120 rfl (by decide) (fun i hi => by match i, hi with | 0, _ => rfl | 1, _ => rfl | 2, _ => rfl) ge_b21 (Or.inr sz_b21) rfl ?_
          intro T94 h94 P94 W94 V94
          have f94_sa20 := f93_sa20.other W94 ne_sa20_b21
          refine k_iconst (z := (3 : Int32)) (pc' := 122) C P94 at_121 rfl rfl ?_
          refine k_newp (pc' := 124) (cells' := 4) (slots' := 11) (N := 3) (cap := 3) C P94 (C.w 28 rfl) at_122 rfl (by decide) (by decide) rfl rfl (by decide) (by decide) rfl ?_
          intro T95 h95 b95 k95 P95 hs95 ge_b95 sz_b95 E95 V95
          have ne_sa20_b95 : sa20 ≠ b95 := Nat.ne_of_lt (hs95 ▸ f94_sa20.lt)
          have ne_b21_b95 : b21 ≠ b95 := Nat.ne_of_lt (hs95 ▸ V94.lt)
          have f95_sa20 := f94_sa20.ext E95
          have f95_b21 := V94.ext E95
          refine k_astore (l' := #[.val (.int p0), .val (.int p1), .val (.int p2), .val (.int (0 : Int32)), .val (.int (1 : Int32)), .val (.int (1 : Int32)), .val (.int (0 : Int32)), .val (.ref sa20), .val (.ref b21), .val (.ref b95), .unset, .unset, .unset]) (pc' := 126) C P95 at_124 rfl rfl rfl ?_
          refine k_aload (pc' := 128) C P95 at_126 rfl rfl rfl ?_
          refine k_iconst (z := (0 : Int32)) (pc' := 129) C P95 at_128 rfl rfl ?_
          refine k_dconst0 (z := (0 : UInt64)) (pc' := 130) C P95 at_129 rfl rfl ?_
          refine k_dastore (J := 0) (g' := (fun i => .double (if i = 0 then (0 : UInt64) else if i = 1 then 0 else 0))) (pc' := 131) C P95 V95 at_130 rfl (by decide) (fun i hi => by match i, hi with | 0, _ => rfl | 1, _ => rfl | 2, _ => rfl) ge_b95 (Or.inr sz_b95) rfl ?_
          intro T96 h96 P96 W96 V96
          have f96_sa20 := f95_sa20.other W96 ne_sa20_b95
          have f96_b21 := f95_b21.other W96 ne_b21_b95
          refine k_aload (pc' := 133) C P96 at_131 rfl rfl rfl ?_
          refine k_iconst (z := (1 : Int32)) (pc' := 134) C P96 at_133 rfl rfl ?_
          refine k_dconst1 (z := (4607182418800017408 : UInt64)) (pc' := 135) C P96 at_134 rfl rfl ?_
          refine k_dastore (J := 1) (g' := (fun i => .double (if i = 0 then (0 : UInt64) else if i = 1 then (4607182418800017408 : UInt64) else 0))) (pc' := 136) C P96 V96 at_135 rfl (by decide) (fun i hi => by match i, hi with | 0, _ => rfl | 1, _ => rfl | 2, _ => rfl) ge_b95 (Or.inr sz_b95) rfl ?_
          intro T97 h97 P97 W97 V97
          have f97_sa20 := f96_sa20.other W97 ne_sa20_b95
          have f97_b21 := f96_b21.other W97 ne_b21_b95
          refine k_aload (pc' := 138) C P97 at_136 rfl rfl rfl ?_
          refine k_iconst (z := (2 : Int32)) (pc' := 139) C P97 at_138 rfl rfl ?_
          refine k_ldc2D (pc' := 142) C P97 (C.w 29 rfl) at_139 rfl ?_
          refine k_dastore (J := 2) (g' := (fun i => .double (if i = 0 then (0 : UInt64) else if i = 1 then (4607182418800017408 : UInt64) else (4611686018427387904 : UInt64)))) (pc' := 143) C P97 V97 at_142 rfl (by decide) (fun i hi => by match i, hi with | 0, _ => rfl | 1, _ => rfl | 2, _ => rfl) ge_b95 (Or.inr sz_b95) rfl ?_
          intro T98 h98 P98 W98 V98
          have f98_sa20 := f97_sa20.other W98 ne_sa20_b95
          have f98_b21 := f97_b21.other W98 ne_b21_b95
          refine k_iloadN (pc' := 144) C P98 at_143 rfl rfl ?_
          refine k_ldcI (pc' := 146) C P98 (C.w 30 rfl) at_144 rfl ?_
          refine k_iand (pc' := 147) C P98 at_146 rfl ?_
          refine k_iconst (z := (3 : Int32)) (pc' := 148) C P98 at_147 rfl rfl ?_
          refine k_irem (pc' := 149) C P98 at_148 (by decide) rfl ?_
          obtain ⟨y, e_y⟩ : ∃ z, z = ((p1 &&& (2147483647 : Int32)) % (3 : Int32)) := ⟨_, rfl⟩
          rw [← e_y]
          obtain ⟨Y, hY, hY3⟩ : ∃ Y : Nat, y.toInt = (Y : Int) ∧ Y < 3 := by rw [e_y]; exact own_q p1
          refine k_istore (l' := #[.val (.int p0), .val (.int p1), .val (.int p2), .val (.int (0 : Int32)), .val (.int (1 : Int32)), .val (.int (1 : Int32)), .val (.int (0 : Int32)), .val (.ref sa20), .val (.ref b21), .val (.ref b95), .val (.int y), .unset, .unset]) (pc' := 151) C P98 at_149 rfl rfl ?_
          refine k_newo (pc' := 154) (cells' := 5) (slots' := 14) C P98 (C.w 31 rfl) (C.w 32 rfl) (C.w 33 rfl) at_151 rfl rfl (by decide) (by decide) rfl ?_
          intro T99 h99 b99 P99 hs99 ge_b99 sz_b99 E99 A99 D99
          have ne_sa20_b99 : sa20 ≠ b99 := Nat.ne_of_lt (hs99 ▸ f98_sa20.lt)
          have ne_b21_b99 : b21 ≠ b99 := Nat.ne_of_lt (hs99 ▸ f98_b21.lt)
          have ne_b95_b99 : b95 ≠ b99 := Nat.ne_of_lt (hs99 ▸ V98.lt)
          have f99_sa20 := f98_sa20.ext E99
          have f99_b21 := f98_b21.ext E99
          have f99_b95 := V98.ext E99
          have f99_b99 : KOb Z h99 b99 "com/example/pactline/pactline/model/Service" layV [.null, .null, .null] := KOb.new A99 D99 (lokV C.hw) (by decide +kernel)
          refine k_dup (pc' := 155) C P99 at_154 rfl rfl ?_
          refine k_ldcS (pc' := 157) (n := 4) (cells' := 7) (slots' := 22) C P99 (C.w 34 rfl) (own_sa C.hw) at_155 (by decide) (by decide) rfl rfl (by decide) (by decide) rfl ?_
          intro T100 h100 b100 P100 E100
          have f100_sa20 := f99_sa20.ext E100
          have f100_b21 := f99_b21.ext E100
          have f100_b95 := f99_b95.ext E100
          have f100_b99 := f99_b99.ext E100
          refine k_aload (pc' := 159) C P100 at_157 rfl rfl rfl ?_
          refine k_aload (pc' := 161) C P100 at_159 rfl rfl rfl ?_
          refine k_callN (pc' := 164) (cells' := 7) (slots' := 22) (W := 1) C P100 rfl (C.w 37 rfl) (C.w 38 rfl) (C.w 39 rfl) (C.w 33 rfl) (by decide) (rmSv l Z a0 hw _ n0 P100.size b99 b100 b95 (.ref b21) rfl ge_b99 f100_b99) b99 [(.ref b100), (.ref b95), (.ref b21)] [(.ref b99)] rfl (lenOf pd_4 rfl) rfl (Nat.le_of_eq rfl) at_161 rfl (by decide) (by decide) rfl rfl (by decide) (by decide) (allS (Or.inr sz_b99) all0) rfl ?_
          intro T101 h101 v101 P101 K101 Q101
          obtain ⟨rfl, F101⟩ := Q101
          have f101_sa20 := f100_sa20.keep K101 (ninS ne_sa20_b99 nin0)
          have f101_b21 := f100_b21.keep K101 (ninS ne_b21_b99 nin0)
          have f101_b95 := f100_b95.keep K101 (ninS ne_b95_b99 nin0)
          show KGo p e below _ T101 m 164 #[.val (.int p0), .val (.int p1), .val (.int p2), .val (.int (0 : Int32)), .val (.int (1 : Int32)), .val (.int (1 : Int32)), .val (.int (0 : Int32)), .val (.ref sa20), .val (.ref b21), .val (.ref b95), .val (.int y), .unset, .unset] [(.ref b99)]
          refine k_astore (l' := #[.val (.int p0), .val (.int p1), .val (.int p2), .val (.int (0 : Int32)), .val (.int (1 : Int32)), .val (.int (1 : Int32)), .val (.int (0 : Int32)), .val (.ref sa20), .val (.ref b21), .val (.ref b95), .val (.int y), .val (.ref b99), .unset]) (pc' := 166) C P101 at_164 rfl rfl rfl ?_
          refine k_iloadN (pc' := 167) C P101 at_166 rfl rfl ?_
          refine k_ifY (pc' := 176) C P101 at_167 k_01 (by decide) (by decide) ?_
          refine k_iload (pc' := 178) C P101 at_176 rfl rfl ?_
          refine k_ifB (pcY := 188) (pcN := 181) C P101 at_178 (by decide) (by decide) rfl ?_ ?_
          · intro (hc178 : ¬ y = (0 : Int32))
            refine k_iload (pc' := 190) C P101 at_188 rfl rfl ?_
            refine k_iconst (z := (1 : Int32)) (pc' := 191) C P101 at_190 rfl rfl ?_
            refine k_icB (pcY := 201) (pcN := 194) C P101 at_191 (by decide) (by decide) rfl ?_ ?_
            · intro (hc191 : ¬ y = (1 : Int32))
              have hYe : y.toInt = ((2 : Nat) : Int) := own_two hY hY3 hc178 hc191
              refine k_iload (pc' := 203) C P101 at_201 rfl rfl ?_
              refine k_istore (l' := #[.val (.int p0), .val (.int p1), .val (.int p2), .val (.int (0 : Int32)), .val (.int (1 : Int32)), .val (.int (1 : Int32)), .val (.int (0 : Int32)), .val (.ref sa20), .val (.ref b21), .val (.ref b95), .val (.int y), .val (.ref b99), .val (.int (0 : Int32))]) (pc' := 205) C P101 at_203 rfl rfl ?_
              refine k_aload (pc' := 207) C P101 at_205 rfl rfl rfl ?_
              refine k_iload (pc' := 209) C P101 at_207 rfl rfl ?_
              refine k_callV (pc' := 212) (cells' := 7) (slots' := 22) (W := 0) C P101 (C.w 47 rfl) (C.w 48 rfl) (fun _ q => notFace_of_selects (args := #[]) (mvT q (C.w 50 rfl))) (C.w 50 rfl) (C.w 49 rfl) (C.w 51 rfl) (C.w 33 rfl) (by decide) (rmT2 l Z a0 hw _ n0 P101.size b99 b100 b95 b21 y 2 hYe (by decide) k21 (fun i => if i = 0 then Value.null else if i = 1 then Value.null else Value.ref sa20) F101 f101_b21 sa20 rfl) F101.exa [(.int y)] [] rfl (lenOf pd_5 rfl) rfl (Nat.le_of_eq rfl) at_209 rfl (by decide) (by decide) rfl rfl (by decide) (by decide) all0 rfl ?_
              intro T102 h102 v102 P102 K102 Q102
              obtain ⟨e102, g102⟩ := Q102
              subst g102
              subst e102
              show KGo p e below _ T102 m 212 #[.val (.int p0), .val (.int p1), .val (.int p2), .val (.int (0 : Int32)), .val (.int (1 : Int32)), .val (.int (1 : Int32)), .val (.int (0 : Int32)), .val (.ref sa20), .val (.ref b21), .val (.ref b95), .val (.int y), .val (.ref b99), .val (.int (0 : Int32))] [(.int (0 : Int32))]
              refine k_iload (pc' := 214) C P102 at_212 rfl rfl ?_
              refine k_icN (pc' := 217) C P102 at_214 (rfl : (_ : Int32) = _) rfl ?_
              refine k_iconst (z := (1 : Int32)) (pc' := 218) C P102 at_217 rfl rfl ?_
              refine k_goto (pc' := 222) C P102 at_218 (by decide) (by decide) ?_
              exact k_retZ (z' := (1 : Int32)) C P102 (by simp) at_222 rfl (by decide) (by decide) rfl
            · intro (hc191 : y = (1 : Int32))
              have hYe : y.toInt = ((1 : Nat) : Int) := by rw [hc191]; rfl
              refine k_iload (pc' := 196) C P101 at_194 rfl rfl ?_
              refine k_istore (l' := #[.val (.int p0), .val (.int p1), .val (.int p2), .val (.int (0 : Int32)), .val (.int (1 : Int32)), .val (.int (1 : Int32)), .val (.int (0 : Int32)), .val (.ref sa20), .val (.ref b21), .val (.ref b95), .val (.int y), .val (.ref b99), .val (.int (1 : Int32))]) (pc' := 198) C P101 at_196 rfl rfl ?_
              refine k_goto (pc' := 205) C P101 at_198 (by decide) (by decide) ?_
              refine k_aload (pc' := 207) C P101 at_205 rfl rfl rfl ?_
              refine k_iload (pc' := 209) C P101 at_207 rfl rfl ?_
              refine k_callV (pc' := 212) (cells' := 7) (slots' := 22) (W := 0) C P101 (C.w 47 rfl) (C.w 48 rfl) (fun _ q => notFace_of_selects (args := #[]) (mvT q (C.w 50 rfl))) (C.w 50 rfl) (C.w 49 rfl) (C.w 51 rfl) (C.w 33 rfl) (by decide) (rmT1 l Z a0 hw _ n0 P101.size b99 b100 b95 b21 y 1 hYe (by decide) k21 (fun i => if i = 0 then Value.null else if i = 1 then Value.null else Value.ref sa20) F101 f101_b21 rfl) F101.exa [(.int y)] [] rfl (lenOf pd_5 rfl) rfl (Nat.le_of_eq rfl) at_209 rfl (by decide) (by decide) rfl rfl (by decide) (by decide) all0 rfl ?_
              intro T103 h103 v103 P103 K103 Q103
              obtain ⟨e103, g103⟩ := Q103
              subst g103
              subst e103
              show KGo p e below _ T103 m 212 #[.val (.int p0), .val (.int p1), .val (.int p2), .val (.int (0 : Int32)), .val (.int (1 : Int32)), .val (.int (1 : Int32)), .val (.int (0 : Int32)), .val (.ref sa20), .val (.ref b21), .val (.ref b95), .val (.int y), .val (.ref b99), .val (.int (1 : Int32))] [(.int (1 : Int32))]
              refine k_iload (pc' := 214) C P103 at_212 rfl rfl ?_
              refine k_icN (pc' := 217) C P103 at_214 (rfl : (_ : Int32) = _) rfl ?_
              refine k_iconst (z := (1 : Int32)) (pc' := 218) C P103 at_217 rfl rfl ?_
              refine k_goto (pc' := 222) C P103 at_218 (by decide) (by decide) ?_
              exact k_retZ (z' := (1 : Int32)) C P103 (by simp) at_222 rfl (by decide) (by decide) rfl
          · intro (hc178 : y = (0 : Int32))
            have hYe : y.toInt = ((0 : Nat) : Int) := by rw [hc178]; rfl
            refine k_iload (pc' := 183) C P101 at_181 rfl rfl ?_
            refine k_istore (l' := #[.val (.int p0), .val (.int p1), .val (.int p2), .val (.int (0 : Int32)), .val (.int (1 : Int32)), .val (.int (1 : Int32)), .val (.int (0 : Int32)), .val (.ref sa20), .val (.ref b21), .val (.ref b95), .val (.int y), .val (.ref b99), .val (.int (1 : Int32))]) (pc' := 185) C P101 at_183 rfl rfl ?_
            refine k_goto (pc' := 205) C P101 at_185 (by decide) (by decide) ?_
            refine k_aload (pc' := 207) C P101 at_205 rfl rfl rfl ?_
            refine k_iload (pc' := 209) C P101 at_207 rfl rfl ?_
            refine k_callV (pc' := 212) (cells' := 7) (slots' := 22) (W := 0) C P101 (C.w 47 rfl) (C.w 48 rfl) (fun _ q => notFace_of_selects (args := #[]) (mvT q (C.w 50 rfl))) (C.w 50 rfl) (C.w 49 rfl) (C.w 51 rfl) (C.w 33 rfl) (by decide) (rmT1 l Z a0 hw _ n0 P101.size b99 b100 b95 b21 y 0 hYe (by decide) k21 (fun i => if i = 0 then Value.null else if i = 1 then Value.null else Value.ref sa20) F101 f101_b21 rfl) F101.exa [(.int y)] [] rfl (lenOf pd_5 rfl) rfl (Nat.le_of_eq rfl) at_209 rfl (by decide) (by decide) rfl rfl (by decide) (by decide) all0 rfl ?_
            intro T104 h104 v104 P104 K104 Q104
            obtain ⟨e104, g104⟩ := Q104
            subst g104
            subst e104
            show KGo p e below _ T104 m 212 #[.val (.int p0), .val (.int p1), .val (.int p2), .val (.int (0 : Int32)), .val (.int (1 : Int32)), .val (.int (1 : Int32)), .val (.int (0 : Int32)), .val (.ref sa20), .val (.ref b21), .val (.ref b95), .val (.int y), .val (.ref b99), .val (.int (1 : Int32))] [(.int (1 : Int32))]
            refine k_iload (pc' := 214) C P104 at_212 rfl rfl ?_
            refine k_icN (pc' := 217) C P104 at_214 (rfl : (_ : Int32) = _) rfl ?_
            refine k_iconst (z := (1 : Int32)) (pc' := 218) C P104 at_217 rfl rfl ?_
            refine k_goto (pc' := 222) C P104 at_218 (by decide) (by decide) ?_
            exact k_retZ (z' := (1 : Int32)) C P104 (by simp) at_222 rfl (by decide) (by decide) rfl
        · skip
          refine k_iload (pc' := 111) C P93 at_109 rfl rfl ?_
          refine k_ifN (pc' := 114) C P93 at_111 k_10 rfl ?_
          refine k_aconstNull (pc' := 115) C P93 at_114 rfl ?_
          refine k_goto (pc' := 120) C P93 at_115 (by decide) (by decide) ?_
          refine k_aastore (J := 2) (g' := (fun i => if i = 0 then Value.null else if i = 1 then Value.null else Value.null)) (pc' := 121) C P93 V93 rfl (Or.inl rfl) at_120 rfl (by decide) (fun i hi => by match i, hi with | 0, _ => rfl | 1, _ => rfl | 2, _ => rfl) ge_b21 (Or.inr sz_b21) rfl ?_
          intro T105 h105 P105 W105 V105
          have f105_sa20 := f93_sa20.other W105 ne_sa20_b21
          refine k_iconst (z := (3 : Int32)) (pc' := 122) C P105 at_121 rfl rfl ?_
          refine k_newp (pc' := 124) (cells' := 4) (slots' := 11) (N := 3) (cap := 3) C P105 (C.w 28 rfl) at_122 rfl (by decide) (by decide) rfl rfl (by decide) (by decide) rfl ?_
          intro T106 h106 b106 k106 P106 hs106 ge_b106 sz_b106 E106 V106
          have ne_sa20_b106 : sa20 ≠ b106 := Nat.ne_of_lt (hs106 ▸ f105_sa20.lt)
          have ne_b21_b106 : b21 ≠ b106 := Nat.ne_of_lt (hs106 ▸ V105.lt)
          have f106_sa20 := f105_sa20.ext E106
          have f106_b21 := V105.ext E106
          refine k_astore (l' := #[.val (.int p0), .val (.int p1), .val (.int p2), .val (.int (0 : Int32)), .val (.int (1 : Int32)), .val (.int (1 : Int32)), .val (.int (1 : Int32)), .val (.ref sa20), .val (.ref b21), .val (.ref b106), .unset, .unset, .unset]) (pc' := 126) C P106 at_124 rfl rfl rfl ?_
          refine k_aload (pc' := 128) C P106 at_126 rfl rfl rfl ?_
          refine k_iconst (z := (0 : Int32)) (pc' := 129) C P106 at_128 rfl rfl ?_
          refine k_dconst0 (z := (0 : UInt64)) (pc' := 130) C P106 at_129 rfl rfl ?_
          refine k_dastore (J := 0) (g' := (fun i => .double (if i = 0 then (0 : UInt64) else if i = 1 then 0 else 0))) (pc' := 131) C P106 V106 at_130 rfl (by decide) (fun i hi => by match i, hi with | 0, _ => rfl | 1, _ => rfl | 2, _ => rfl) ge_b106 (Or.inr sz_b106) rfl ?_
          intro T107 h107 P107 W107 V107
          have f107_sa20 := f106_sa20.other W107 ne_sa20_b106
          have f107_b21 := f106_b21.other W107 ne_b21_b106
          refine k_aload (pc' := 133) C P107 at_131 rfl rfl rfl ?_
          refine k_iconst (z := (1 : Int32)) (pc' := 134) C P107 at_133 rfl rfl ?_
          refine k_dconst1 (z := (4607182418800017408 : UInt64)) (pc' := 135) C P107 at_134 rfl rfl ?_
          refine k_dastore (J := 1) (g' := (fun i => .double (if i = 0 then (0 : UInt64) else if i = 1 then (4607182418800017408 : UInt64) else 0))) (pc' := 136) C P107 V107 at_135 rfl (by decide) (fun i hi => by match i, hi with | 0, _ => rfl | 1, _ => rfl | 2, _ => rfl) ge_b106 (Or.inr sz_b106) rfl ?_
          intro T108 h108 P108 W108 V108
          have f108_sa20 := f107_sa20.other W108 ne_sa20_b106
          have f108_b21 := f107_b21.other W108 ne_b21_b106
          refine k_aload (pc' := 138) C P108 at_136 rfl rfl rfl ?_
          refine k_iconst (z := (2 : Int32)) (pc' := 139) C P108 at_138 rfl rfl ?_
          refine k_ldc2D (pc' := 142) C P108 (C.w 29 rfl) at_139 rfl ?_
          refine k_dastore (J := 2) (g' := (fun i => .double (if i = 0 then (0 : UInt64) else if i = 1 then (4607182418800017408 : UInt64) else (4611686018427387904 : UInt64)))) (pc' := 143) C P108 V108 at_142 rfl (by decide) (fun i hi => by match i, hi with | 0, _ => rfl | 1, _ => rfl | 2, _ => rfl) ge_b106 (Or.inr sz_b106) rfl ?_
          intro T109 h109 P109 W109 V109
          have f109_sa20 := f108_sa20.other W109 ne_sa20_b106
          have f109_b21 := f108_b21.other W109 ne_b21_b106
          refine k_iloadN (pc' := 144) C P109 at_143 rfl rfl ?_
          refine k_ldcI (pc' := 146) C P109 (C.w 30 rfl) at_144 rfl ?_
          refine k_iand (pc' := 147) C P109 at_146 rfl ?_
          refine k_iconst (z := (3 : Int32)) (pc' := 148) C P109 at_147 rfl rfl ?_
          refine k_irem (pc' := 149) C P109 at_148 (by decide) rfl ?_
          obtain ⟨y, e_y⟩ : ∃ z, z = ((p1 &&& (2147483647 : Int32)) % (3 : Int32)) := ⟨_, rfl⟩
          rw [← e_y]
          obtain ⟨Y, hY, hY3⟩ : ∃ Y : Nat, y.toInt = (Y : Int) ∧ Y < 3 := by rw [e_y]; exact own_q p1
          refine k_istore (l' := #[.val (.int p0), .val (.int p1), .val (.int p2), .val (.int (0 : Int32)), .val (.int (1 : Int32)), .val (.int (1 : Int32)), .val (.int (1 : Int32)), .val (.ref sa20), .val (.ref b21), .val (.ref b106), .val (.int y), .unset, .unset]) (pc' := 151) C P109 at_149 rfl rfl ?_
          refine k_newo (pc' := 154) (cells' := 5) (slots' := 14) C P109 (C.w 31 rfl) (C.w 32 rfl) (C.w 33 rfl) at_151 rfl rfl (by decide) (by decide) rfl ?_
          intro T110 h110 b110 P110 hs110 ge_b110 sz_b110 E110 A110 D110
          have ne_sa20_b110 : sa20 ≠ b110 := Nat.ne_of_lt (hs110 ▸ f109_sa20.lt)
          have ne_b21_b110 : b21 ≠ b110 := Nat.ne_of_lt (hs110 ▸ f109_b21.lt)
          have ne_b106_b110 : b106 ≠ b110 := Nat.ne_of_lt (hs110 ▸ V109.lt)
          have f110_sa20 := f109_sa20.ext E110
          have f110_b21 := f109_b21.ext E110
          have f110_b106 := V109.ext E110
          have f110_b110 : KOb Z h110 b110 "com/example/pactline/pactline/model/Service" layV [.null, .null, .null] := KOb.new A110 D110 (lokV C.hw) (by decide +kernel)
          refine k_dup (pc' := 155) C P110 at_154 rfl rfl ?_
          refine k_ldcS (pc' := 157) (n := 4) (cells' := 7) (slots' := 22) C P110 (C.w 34 rfl) (own_sa C.hw) at_155 (by decide) (by decide) rfl rfl (by decide) (by decide) rfl ?_
          intro T111 h111 b111 P111 E111
          have f111_sa20 := f110_sa20.ext E111
          have f111_b21 := f110_b21.ext E111
          have f111_b106 := f110_b106.ext E111
          have f111_b110 := f110_b110.ext E111
          refine k_aload (pc' := 159) C P111 at_157 rfl rfl rfl ?_
          refine k_aload (pc' := 161) C P111 at_159 rfl rfl rfl ?_
          refine k_callN (pc' := 164) (cells' := 7) (slots' := 22) (W := 1) C P111 rfl (C.w 37 rfl) (C.w 38 rfl) (C.w 39 rfl) (C.w 33 rfl) (by decide) (rmSv l Z a0 hw _ n0 P111.size b110 b111 b106 (.ref b21) rfl ge_b110 f111_b110) b110 [(.ref b111), (.ref b106), (.ref b21)] [(.ref b110)] rfl (lenOf pd_4 rfl) rfl (Nat.le_of_eq rfl) at_161 rfl (by decide) (by decide) rfl rfl (by decide) (by decide) (allS (Or.inr sz_b110) all0) rfl ?_
          intro T112 h112 v112 P112 K112 Q112
          obtain ⟨rfl, F112⟩ := Q112
          have f112_sa20 := f111_sa20.keep K112 (ninS ne_sa20_b110 nin0)
          have f112_b21 := f111_b21.keep K112 (ninS ne_b21_b110 nin0)
          have f112_b106 := f111_b106.keep K112 (ninS ne_b106_b110 nin0)
          show KGo p e below _ T112 m 164 #[.val (.int p0), .val (.int p1), .val (.int p2), .val (.int (0 : Int32)), .val (.int (1 : Int32)), .val (.int (1 : Int32)), .val (.int (1 : Int32)), .val (.ref sa20), .val (.ref b21), .val (.ref b106), .val (.int y), .unset, .unset] [(.ref b110)]
          refine k_astore (l' := #[.val (.int p0), .val (.int p1), .val (.int p2), .val (.int (0 : Int32)), .val (.int (1 : Int32)), .val (.int (1 : Int32)), .val (.int (1 : Int32)), .val (.ref sa20), .val (.ref b21), .val (.ref b106), .val (.int y), .val (.ref b110), .unset]) (pc' := 166) C P112 at_164 rfl rfl rfl ?_
          refine k_iloadN (pc' := 167) C P112 at_166 rfl rfl ?_
          refine k_ifY (pc' := 176) C P112 at_167 k_01 (by decide) (by decide) ?_
          refine k_iload (pc' := 178) C P112 at_176 rfl rfl ?_
          refine k_ifB (pcY := 188) (pcN := 181) C P112 at_178 (by decide) (by decide) rfl ?_ ?_
          · intro (hc178 : ¬ y = (0 : Int32))
            refine k_iload (pc' := 190) C P112 at_188 rfl rfl ?_
            refine k_iconst (z := (1 : Int32)) (pc' := 191) C P112 at_190 rfl rfl ?_
            refine k_icB (pcY := 201) (pcN := 194) C P112 at_191 (by decide) (by decide) rfl ?_ ?_
            · intro (hc191 : ¬ y = (1 : Int32))
              have hYe : y.toInt = ((2 : Nat) : Int) := own_two hY hY3 hc178 hc191
              refine k_iload (pc' := 203) C P112 at_201 rfl rfl ?_
              refine k_istore (l' := #[.val (.int p0), .val (.int p1), .val (.int p2), .val (.int (0 : Int32)), .val (.int (1 : Int32)), .val (.int (1 : Int32)), .val (.int (1 : Int32)), .val (.ref sa20), .val (.ref b21), .val (.ref b106), .val (.int y), .val (.ref b110), .val (.int (1 : Int32))]) (pc' := 205) C P112 at_203 rfl rfl ?_
              refine k_aload (pc' := 207) C P112 at_205 rfl rfl rfl ?_
              refine k_iload (pc' := 209) C P112 at_207 rfl rfl ?_
              refine k_callV (pc' := 212) (cells' := 7) (slots' := 22) (W := 0) C P112 (C.w 47 rfl) (C.w 48 rfl) (fun _ q => notFace_of_selects (args := #[]) (mvT q (C.w 50 rfl))) (C.w 50 rfl) (C.w 49 rfl) (C.w 51 rfl) (C.w 33 rfl) (by decide) (rmT1 l Z a0 hw _ n0 P112.size b110 b111 b106 b21 y 2 hYe (by decide) k21 (fun i => if i = 0 then Value.null else if i = 1 then Value.null else Value.null) F112 f112_b21 rfl) F112.exa [(.int y)] [] rfl (lenOf pd_5 rfl) rfl (Nat.le_of_eq rfl) at_209 rfl (by decide) (by decide) rfl rfl (by decide) (by decide) all0 rfl ?_
              intro T113 h113 v113 P113 K113 Q113
              obtain ⟨e113, g113⟩ := Q113
              subst g113
              subst e113
              show KGo p e below _ T113 m 212 #[.val (.int p0), .val (.int p1), .val (.int p2), .val (.int (0 : Int32)), .val (.int (1 : Int32)), .val (.int (1 : Int32)), .val (.int (1 : Int32)), .val (.ref sa20), .val (.ref b21), .val (.ref b106), .val (.int y), .val (.ref b110), .val (.int (1 : Int32))] [(.int (1 : Int32))]
              refine k_iload (pc' := 214) C P113 at_212 rfl rfl ?_
              refine k_icN (pc' := 217) C P113 at_214 (rfl : (_ : Int32) = _) rfl ?_
              refine k_iconst (z := (1 : Int32)) (pc' := 218) C P113 at_217 rfl rfl ?_
              refine k_goto (pc' := 222) C P113 at_218 (by decide) (by decide) ?_
              exact k_retZ (z' := (1 : Int32)) C P113 (by simp) at_222 rfl (by decide) (by decide) rfl
            · intro (hc191 : y = (1 : Int32))
              have hYe : y.toInt = ((1 : Nat) : Int) := by rw [hc191]; rfl
              refine k_iload (pc' := 196) C P112 at_194 rfl rfl ?_
              refine k_istore (l' := #[.val (.int p0), .val (.int p1), .val (.int p2), .val (.int (0 : Int32)), .val (.int (1 : Int32)), .val (.int (1 : Int32)), .val (.int (1 : Int32)), .val (.ref sa20), .val (.ref b21), .val (.ref b106), .val (.int y), .val (.ref b110), .val (.int (1 : Int32))]) (pc' := 198) C P112 at_196 rfl rfl ?_
              refine k_goto (pc' := 205) C P112 at_198 (by decide) (by decide) ?_
              refine k_aload (pc' := 207) C P112 at_205 rfl rfl rfl ?_
              refine k_iload (pc' := 209) C P112 at_207 rfl rfl ?_
              refine k_callV (pc' := 212) (cells' := 7) (slots' := 22) (W := 0) C P112 (C.w 47 rfl) (C.w 48 rfl) (fun _ q => notFace_of_selects (args := #[]) (mvT q (C.w 50 rfl))) (C.w 50 rfl) (C.w 49 rfl) (C.w 51 rfl) (C.w 33 rfl) (by decide) (rmT1 l Z a0 hw _ n0 P112.size b110 b111 b106 b21 y 1 hYe (by decide) k21 (fun i => if i = 0 then Value.null else if i = 1 then Value.null else Value.null) F112 f112_b21 rfl) F112.exa [(.int y)] [] rfl (lenOf pd_5 rfl) rfl (Nat.le_of_eq rfl) at_209 rfl (by decide) (by decide) rfl rfl (by decide) (by decide) all0 rfl ?_
              intro T114 h114 v114 P114 K114 Q114
              obtain ⟨e114, g114⟩ := Q114
              subst g114
              subst e114
              show KGo p e below _ T114 m 212 #[.val (.int p0), .val (.int p1), .val (.int p2), .val (.int (0 : Int32)), .val (.int (1 : Int32)), .val (.int (1 : Int32)), .val (.int (1 : Int32)), .val (.ref sa20), .val (.ref b21), .val (.ref b106), .val (.int y), .val (.ref b110), .val (.int (1 : Int32))] [(.int (1 : Int32))]
              refine k_iload (pc' := 214) C P114 at_212 rfl rfl ?_
              refine k_icN (pc' := 217) C P114 at_214 (rfl : (_ : Int32) = _) rfl ?_
              refine k_iconst (z := (1 : Int32)) (pc' := 218) C P114 at_217 rfl rfl ?_
              refine k_goto (pc' := 222) C P114 at_218 (by decide) (by decide) ?_
              exact k_retZ (z' := (1 : Int32)) C P114 (by simp) at_222 rfl (by decide) (by decide) rfl
          · intro (hc178 : y = (0 : Int32))
            have hYe : y.toInt = ((0 : Nat) : Int) := by rw [hc178]; rfl
            refine k_iload (pc' := 183) C P112 at_181 rfl rfl ?_
            refine k_istore (l' := #[.val (.int p0), .val (.int p1), .val (.int p2), .val (.int (0 : Int32)), .val (.int (1 : Int32)), .val (.int (1 : Int32)), .val (.int (1 : Int32)), .val (.ref sa20), .val (.ref b21), .val (.ref b106), .val (.int y), .val (.ref b110), .val (.int (1 : Int32))]) (pc' := 185) C P112 at_183 rfl rfl ?_
            refine k_goto (pc' := 205) C P112 at_185 (by decide) (by decide) ?_
            refine k_aload (pc' := 207) C P112 at_205 rfl rfl rfl ?_
            refine k_iload (pc' := 209) C P112 at_207 rfl rfl ?_
            refine k_callV (pc' := 212) (cells' := 7) (slots' := 22) (W := 0) C P112 (C.w 47 rfl) (C.w 48 rfl) (fun _ q => notFace_of_selects (args := #[]) (mvT q (C.w 50 rfl))) (C.w 50 rfl) (C.w 49 rfl) (C.w 51 rfl) (C.w 33 rfl) (by decide) (rmT1 l Z a0 hw _ n0 P112.size b110 b111 b106 b21 y 0 hYe (by decide) k21 (fun i => if i = 0 then Value.null else if i = 1 then Value.null else Value.null) F112 f112_b21 rfl) F112.exa [(.int y)] [] rfl (lenOf pd_5 rfl) rfl (Nat.le_of_eq rfl) at_209 rfl (by decide) (by decide) rfl rfl (by decide) (by decide) all0 rfl ?_
            intro T115 h115 v115 P115 K115 Q115
            obtain ⟨e115, g115⟩ := Q115
            subst g115
            subst e115
            show KGo p e below _ T115 m 212 #[.val (.int p0), .val (.int p1), .val (.int p2), .val (.int (0 : Int32)), .val (.int (1 : Int32)), .val (.int (1 : Int32)), .val (.int (1 : Int32)), .val (.ref sa20), .val (.ref b21), .val (.ref b106), .val (.int y), .val (.ref b110), .val (.int (1 : Int32))] [(.int (1 : Int32))]
            refine k_iload (pc' := 214) C P115 at_212 rfl rfl ?_
            refine k_icN (pc' := 217) C P115 at_214 (rfl : (_ : Int32) = _) rfl ?_
            refine k_iconst (z := (1 : Int32)) (pc' := 218) C P115 at_217 rfl rfl ?_
            refine k_goto (pc' := 222) C P115 at_218 (by decide) (by decide) ?_
            exact k_retZ (z' := (1 : Int32)) C P115 (by simp) at_222 rfl (by decide) (by decide) rfl
  · skip
    refine k_iloadN (pc' := 67) C P20 at_66 rfl rfl ?_
    refine k_ifY (pc' := 121) C P20 at_67 k_10 (by decide) (by decide) ?_
    refine k_iconst (z := (3 : Int32)) (pc' := 122) C P20 at_121 rfl rfl ?_
    refine k_newp (pc' := 124) (cells' := 3) (slots' := 8) (N := 3) (cap := 3) C P20 (C.w 28 rfl) at_122 rfl (by decide) (by decide) rfl rfl (by decide) (by decide) rfl ?_
    intro T116 h116 b116 k116 P116 hs116 ge_b116 sz_b116 E116 V116
    have ne_sa20_b116 : sa20 ≠ b116 := Nat.ne_of_lt (hs116 ▸ F20.lt)
    have f116_sa20 := F20.ext E116
    refine k_astore (l' := #[.val (.int p0), .val (.int p1), .val (.int p2), .val (.int (1 : Int32)), .val (.int m4), .val (.int m5), .val (.int m6), .val (.ref sa20), .val .null, .val (.ref b116), .unset, .unset, .unset]) (pc' := 126) C P116 at_124 rfl rfl rfl ?_
    refine k_aload (pc' := 128) C P116 at_126 rfl rfl rfl ?_
    refine k_iconst (z := (0 : Int32)) (pc' := 129) C P116 at_128 rfl rfl ?_
    refine k_dconst0 (z := (0 : UInt64)) (pc' := 130) C P116 at_129 rfl rfl ?_
    refine k_dastore (J := 0) (g' := (fun i => .double (if i = 0 then (0 : UInt64) else if i = 1 then 0 else 0))) (pc' := 131) C P116 V116 at_130 rfl (by decide) (fun i hi => by match i, hi with | 0, _ => rfl | 1, _ => rfl | 2, _ => rfl) ge_b116 (Or.inr sz_b116) rfl ?_
    intro T117 h117 P117 W117 V117
    have f117_sa20 := f116_sa20.other W117 ne_sa20_b116
    refine k_aload (pc' := 133) C P117 at_131 rfl rfl rfl ?_
    refine k_iconst (z := (1 : Int32)) (pc' := 134) C P117 at_133 rfl rfl ?_
    refine k_dconst1 (z := (4607182418800017408 : UInt64)) (pc' := 135) C P117 at_134 rfl rfl ?_
    refine k_dastore (J := 1) (g' := (fun i => .double (if i = 0 then (0 : UInt64) else if i = 1 then (4607182418800017408 : UInt64) else 0))) (pc' := 136) C P117 V117 at_135 rfl (by decide) (fun i hi => by match i, hi with | 0, _ => rfl | 1, _ => rfl | 2, _ => rfl) ge_b116 (Or.inr sz_b116) rfl ?_
    intro T118 h118 P118 W118 V118
    have f118_sa20 := f117_sa20.other W118 ne_sa20_b116
    refine k_aload (pc' := 138) C P118 at_136 rfl rfl rfl ?_
    refine k_iconst (z := (2 : Int32)) (pc' := 139) C P118 at_138 rfl rfl ?_
    refine k_ldc2D (pc' := 142) C P118 (C.w 29 rfl) at_139 rfl ?_
    refine k_dastore (J := 2) (g' := (fun i => .double (if i = 0 then (0 : UInt64) else if i = 1 then (4607182418800017408 : UInt64) else (4611686018427387904 : UInt64)))) (pc' := 143) C P118 V118 at_142 rfl (by decide) (fun i hi => by match i, hi with | 0, _ => rfl | 1, _ => rfl | 2, _ => rfl) ge_b116 (Or.inr sz_b116) rfl ?_
    intro T119 h119 P119 W119 V119
    have f119_sa20 := f118_sa20.other W119 ne_sa20_b116
    refine k_iloadN (pc' := 144) C P119 at_143 rfl rfl ?_
    refine k_ldcI (pc' := 146) C P119 (C.w 30 rfl) at_144 rfl ?_
    refine k_iand (pc' := 147) C P119 at_146 rfl ?_
    refine k_iconst (z := (3 : Int32)) (pc' := 148) C P119 at_147 rfl rfl ?_
    refine k_irem (pc' := 149) C P119 at_148 (by decide) rfl ?_
    obtain ⟨y, e_y⟩ : ∃ z, z = ((p1 &&& (2147483647 : Int32)) % (3 : Int32)) := ⟨_, rfl⟩
    rw [← e_y]
    obtain ⟨Y, hY, hY3⟩ : ∃ Y : Nat, y.toInt = (Y : Int) ∧ Y < 3 := by rw [e_y]; exact own_q p1
    refine k_istore (l' := #[.val (.int p0), .val (.int p1), .val (.int p2), .val (.int (1 : Int32)), .val (.int m4), .val (.int m5), .val (.int m6), .val (.ref sa20), .val .null, .val (.ref b116), .val (.int y), .unset, .unset]) (pc' := 151) C P119 at_149 rfl rfl ?_
    refine k_newo (pc' := 154) (cells' := 4) (slots' := 11) C P119 (C.w 31 rfl) (C.w 32 rfl) (C.w 33 rfl) at_151 rfl rfl (by decide) (by decide) rfl ?_
    intro T120 h120 b120 P120 hs120 ge_b120 sz_b120 E120 A120 D120
    have ne_sa20_b120 : sa20 ≠ b120 := Nat.ne_of_lt (hs120 ▸ f119_sa20.lt)
    have ne_b116_b120 : b116 ≠ b120 := Nat.ne_of_lt (hs120 ▸ V119.lt)
    have f120_sa20 := f119_sa20.ext E120
    have f120_b116 := V119.ext E120
    have f120_b120 : KOb Z h120 b120 "com/example/pactline/pactline/model/Service" layV [.null, .null, .null] := KOb.new A120 D120 (lokV C.hw) (by decide +kernel)
    refine k_dup (pc' := 155) C P120 at_154 rfl rfl ?_
    refine k_ldcS (pc' := 157) (n := 4) (cells' := 6) (slots' := 19) C P120 (C.w 34 rfl) (own_sa C.hw) at_155 (by decide) (by decide) rfl rfl (by decide) (by decide) rfl ?_
    intro T121 h121 b121 P121 E121
    have f121_sa20 := f120_sa20.ext E121
    have f121_b116 := f120_b116.ext E121
    have f121_b120 := f120_b120.ext E121
    refine k_aload (pc' := 159) C P121 at_157 rfl rfl rfl ?_
    refine k_aload (pc' := 161) C P121 at_159 rfl rfl rfl ?_
    refine k_callN (pc' := 164) (cells' := 6) (slots' := 19) (W := 1) C P121 rfl (C.w 37 rfl) (C.w 38 rfl) (C.w 39 rfl) (C.w 33 rfl) (by decide) (rmSv l Z a0 hw _ n0 P121.size b120 b121 b116 .null rfl ge_b120 f121_b120) b120 [(.ref b121), (.ref b116), .null] [(.ref b120)] rfl (lenOf pd_4 rfl) rfl (Nat.le_of_eq rfl) at_161 rfl (by decide) (by decide) rfl rfl (by decide) (by decide) (allS (Or.inr sz_b120) all0) rfl ?_
    intro T122 h122 v122 P122 K122 Q122
    obtain ⟨rfl, F122⟩ := Q122
    have f122_sa20 := f121_sa20.keep K122 (ninS ne_sa20_b120 nin0)
    have f122_b116 := f121_b116.keep K122 (ninS ne_b116_b120 nin0)
    show KGo p e below _ T122 m 164 #[.val (.int p0), .val (.int p1), .val (.int p2), .val (.int (1 : Int32)), .val (.int m4), .val (.int m5), .val (.int m6), .val (.ref sa20), .val .null, .val (.ref b116), .val (.int y), .unset, .unset] [(.ref b120)]
    refine k_astore (l' := #[.val (.int p0), .val (.int p1), .val (.int p2), .val (.int (1 : Int32)), .val (.int m4), .val (.int m5), .val (.int m6), .val (.ref sa20), .val .null, .val (.ref b116), .val (.int y), .val (.ref b120), .unset]) (pc' := 166) C P122 at_164 rfl rfl rfl ?_
    refine k_iloadN (pc' := 167) C P122 at_166 rfl rfl ?_
    refine k_ifN (pc' := 170) C P122 at_167 k_10 rfl ?_
    refine k_iconst (z := (1 : Int32)) (pc' := 171) C P122 at_170 rfl rfl ?_
    refine k_istore (l' := #[.val (.int p0), .val (.int p1), .val (.int p2), .val (.int (1 : Int32)), .val (.int m4), .val (.int m5), .val (.int m6), .val (.ref sa20), .val .null, .val (.ref b116), .val (.int y), .val (.ref b120), .val (.int (1 : Int32))]) (pc' := 173) C P122 at_171 rfl rfl ?_
    refine k_goto (pc' := 205) C P122 at_173 (by decide) (by decide) ?_
    refine k_aload (pc' := 207) C P122 at_205 rfl rfl rfl ?_
    refine k_iload (pc' := 209) C P122 at_207 rfl rfl ?_
    refine k_callV (pc' := 212) (cells' := 6) (slots' := 19) (W := 0) C P122 (C.w 47 rfl) (C.w 48 rfl) (fun _ q => notFace_of_selects (args := #[]) (mvT q (C.w 50 rfl))) (C.w 50 rfl) (C.w 49 rfl) (C.w 51 rfl) (C.w 33 rfl) (by decide) (rmT0 l Z a0 hw _ n0 P122.size b120 b121 b116 y F122) F122.exa [(.int y)] [] rfl (lenOf pd_5 rfl) rfl (Nat.le_of_eq rfl) at_209 rfl (by decide) (by decide) rfl rfl (by decide) (by decide) all0 rfl ?_
    intro T123 h123 v123 P123 K123 Q123
    obtain ⟨e123, g123⟩ := Q123
    subst g123
    subst e123
    show KGo p e below _ T123 m 212 #[.val (.int p0), .val (.int p1), .val (.int p2), .val (.int (1 : Int32)), .val (.int m4), .val (.int m5), .val (.int m6), .val (.ref sa20), .val .null, .val (.ref b116), .val (.int y), .val (.ref b120), .val (.int (1 : Int32))] [(.int (1 : Int32))]
    refine k_iload (pc' := 214) C P123 at_212 rfl rfl ?_
    refine k_icN (pc' := 217) C P123 at_214 (rfl : (_ : Int32) = _) rfl ?_
    refine k_iconst (z := (1 : Int32)) (pc' := 218) C P123 at_217 rfl rfl ?_
    refine k_goto (pc' := 222) C P123 at_218 (by decide) (by decide) ?_
    exact k_retZ (z' := (1 : Int32)) C P123 (by simp) at_222 rfl (by decide) (by decide) rfl
set_option maxRecDepth 65536 in
set_option maxHeartbeats 40000000 in
theorem comes_1 {Post : Tables → Env → Array Value → State → Outcome → State → Prop} (hpost : ∀ tb e args s v u, (limb_1_1.after args s (.returned v) u = true ∧ limb_1_2.after args s (.returned v) u = true ∧ True) → ReturnedEndW s (.returned v) u (Jvm.fieldLocs frame_1_writes args s ++ Jvm.arrayLocs frame_1_arrays args s ++ Jvm.staticLocs frame_1_statics s) 24 1152 → Post tb e args s (.returned v) u) :
    ArmFor flags0 classFile x code maxLocals ret World_1 tables_1 room_1 Calls_1 rest_1 Pre_1 Post := by
  intro l hfl _ _ p e ha hc hk s m args below hf hA hF happ hP
  obtain ⟨hcalls, hrest, hpre⟩ := hP
  obtain ⟨-, -, -, hnamed, -, -, -, hat⟩ := (Spec.applies_iff hf).mp happ
  obtain ⟨hg, hn⟩ := and_e (Cond.before_iff.mp (show (Jvm.Cond.and given_1 narrow_1).before args s = true from hpre))
  obtain ⟨g0, g1⟩ := and_e hg
  obtain ⟨a0, g2⟩ := and_e g1
  obtain ⟨a1, g3⟩ := and_e g2
  have a2 := g3
  obtain ⟨w0, w1, w2, rfl⟩ : ∃ w0 w1 w2 : Value, args = #[w0, w1, w2] := by
    have hs : args.size = 3 := by simpa [Cond.value, given_1] using g0
    obtain ⟨L⟩ := args
    match L, hs with
    | [w0, w1, w2], _ => exact ⟨w0, w1, w2, rfl⟩
  have hw := fun d (hd : d ∈ tables_1) => atoms_spec (ws := Jvm.Cond.code x code maxLocals ret :: tables_1) hat d (List.mem_cons_of_mem _ hd)
  have hfit : Fit s := fun {y c} hc i hi => by
    obtain ⟨ha, rfl⟩ := Array.getElem?_eq_some_iff.mp hc
    have q := List.all_eq_true.mp ((Array.all_eq_true_iff_forall_mem.mp hF) _ (Array.getElem_mem ha)) i (List.mem_range.mpr hi)
    simpa [Array.getElem?_eq_getElem hi] using q
  obtain ⟨hsets, hown0⟩ := atoms_of _ (rest_1_c_eq ▸ (show rest_1_c.before _ s = true from hrest))
  have hr0 := Cond.before_iff.mp hown0
  obtain ⟨i0, ei0⟩ := is_v a0
  obtain rfl : w0 = (.int i0) := Option.some.inj ei0
  obtain ⟨i1, ei1⟩ := is_v a1
  obtain rfl : w1 = (.int i1) := Option.some.inj ei1
  obtain ⟨i2, ei2⟩ := is_v a2
  obtain rfl : w2 = (.int i2) := Option.some.inj ei2
  obtain ⟨cs, hcs, SC⟩ := own_cs (show ∀ d ∈ jdkStatics_1, d.before _ s = true from hsets)
  obtain ⟨n, o, h1, h2, h3, _, L, rfl, ⟨N, _, rfl⟩, hq0⟩ := (rm0 l s _ hw s.heap s.heap.size (Nat.le_refl _) i0 i1 i2 cs hcs SC) tables_1 p e ha hc hk s m _ below hf ((Spec.applies_iff_loose hf).mp happ).1 ⟨rfl, State.Warmed39.refl s, rfl⟩ trivial
  have hq : ReturnedEndW _ _ _ _ _ _ := hq0
  refine ⟨n, _, h1, h2, h3, hpost _ _ _ _ _ _ ⟨Cond.after_iff.mpr rfl, Cond.after_iff.mpr (eq_i res_at (Term.int_eval (1)) rfl), trivial⟩ ⟨hq.1, hq.2.1, hq.2.2.1, (hq.2.2.2.sift fun y hy => Or.inr (N y hy)).mono (by decide) (by decide)⟩⟩
theorem main_1_1 : Claimed_1_1 := comes_1 fun _ _ _ _ _ _ h hF => ⟨h.1, hF⟩
theorem main_1_2 : Claimed_1_2 := comes_1 fun _ _ _ _ _ _ h hF => ⟨h.2.1, hF⟩
end Jvm.Pilot.@@N@@
namespace Jvm.Pilot.@@N@@
open Jvm Jvm.ClassFile Sem Op Lib Jvm.Free Jvm.Stand Jvm.Pilot.@@N@@.Jvm.D
/-! MADE BY PROGRAM (witnessworld.py) out of the Statement's table words and the real class files: 20 classes; the members and pool entries that the words name. The judged class is class 1, her method 1. -/
namespace start1
open Jvm.ClassFile
def u (s : String) : CpInfo := .utf8 (stringToUtf16 s)
/-- a pool by its gaps: so many unusable entries, then the entry; so many at the end -/
def gap : Nat → List CpInfo → List CpInfo
  | 0, r => r
  | n + 1, r => .unusable :: gap n r
def poolList (es : List (Nat × CpInfo)) (last : Nat) : List CpInfo := es.foldr (fun e r => gap e.1 (e.2 :: r)) (gap last [])
def pool (es : List (Nat × CpInfo)) (last : Nat) : Array CpInfo := ⟨poolList es last⟩
def fileOf (pool : Array CpInfo) (this : Nat) (attrs : Array Attribute := #[]) (ms : Array MethodInfo := #[]) (fl : Nat := 33) (sup : Nat := 0) (ifs : Array Nat := #[]) (fds : Array FieldInfo := #[]) : ClassFile where
  minorVersion := 0
  majorVersion := 65
  constantPool := pool
  accessFlags := fl
  thisClass := this
  superClass := sup
  interfaces := ifs
  fields := fds
  methods := ms
  attributes := attrs
def plain (name : String) (sup : Option ClassId) : Class where
  name := name
  kind := .ordinary
  loader := none
  accessFlags := 33
  super := sup
  interfaces := #[]
  cf := none
  fields := #[]
  methods := #[]
  instanceTypes := #[]
  staticTypes := #[]
  resolved := #[]
  callSites := []
  init := .initialized
  statics := none
  mirror := none

def pool0 : Array CpInfo := pool [(5, u "<init>"), (0, u "()V"), (1, .class_ 10), (1, u "java/lang/Object")] 113

def k0c0 : Code := { maxStack := 0, maxLocals := 1, code := object_method_1_code, exceptionTable := #[], attributes := #[] }
def k0m0 : Method := { name := "<init>", desc := "()V", sig := { parameters := [], returnType := none }, accessFlags := 1, code := some k0c0 }
/-- java/lang/Object -/
def k0 : Class := { plain "java/lang/Object" none with
  accessFlags := 33
  interfaces := #[]
  cf := some (fileOf pool0 8 #[] #[{ accessFlags := 1, nameIndex := 5, descriptorIndex := 6, attributes := #[] }] 33 0 #[] #[])
  fields := #[]
  methods := #[k0m0]
  instanceTypes := #[]
  staticTypes := #[]
  resolved := Array.replicate 124 none
  statics := none }

def pool1 : Array CpInfo := pool [(2, .class_ 4), (1, u "java/lang/Object"), (0, u "<init>"), (0, u "()V"), (0, .methodref 8 9), (0, .class_ 10), (0, .nameAndType 11 12), (0, u "java/lang/String"), (0, u "valueOf"), (0, u "(C)Ljava/lang/String;"), (0, .double 4611686018427387904), (1, .integer 2147483647), (0, .class_ 17), (0, u "com/example/pactline/pactline/model/Service"), (0, .string 19), (0, u "s"), (0, .methodref 16 21), (0, .nameAndType 5 22), (0, u "(Ljava/lang/String;[D[Ljava/lang/String;)V"), (0, .methodref 16 24), (0, .nameAndType 25 26), (0, u "toldApart"), (0, u "(I)Z"), (0, .class_ 28), (0, u "com/example/pactline/pactline/model/ServiceToldApartPinLaw"), (2, u "law"), (0, u "(III)Z")] 7

def k1m0 : Method := { name := "<init>", desc := "()V", sig := { parameters := [], returnType := none }, accessFlags := 2, code := none }
def k1c1 : Code := { maxStack := 5, maxLocals := 13, code := code, exceptionTable := #[], attributes := #[] }
def k1m1 : Method := { name := "law", desc := "(III)Z", sig := { parameters := [.int, .int, .int], returnType := some .boolean }, accessFlags := 9, code := some k1c1 }
/-- com/example/pactline/pactline/model/ServiceToldApartPinLaw -/
def k1 : Class := { plain "com/example/pactline/pactline/model/ServiceToldApartPinLaw" (some 0) with
  accessFlags := 49
  interfaces := #[]
  cf := some (fileOf pool1 27 #[] #[{ accessFlags := 2, nameIndex := 5, descriptorIndex := 6, attributes := #[] }, { accessFlags := 9, nameIndex := 31, descriptorIndex := 32, attributes := #[] }] 49 2 #[] #[])
  fields := #[]
  methods := #[k1m0, k1m1]
  instanceTypes := #[]
  staticTypes := #[]
  resolved := Array.replicate 40 none
  statics := none }

def pool2 : Array CpInfo := pool [(1, .class_ 2), (0, u "java/io/Serializable"), (0, .class_ 4), (0, u "java/lang/Object")] 2

/-- java/io/Serializable -/
def k2 : Class := { plain "java/io/Serializable" (some 0) with
  accessFlags := 1537
  interfaces := #[]
  cf := some (fileOf pool2 1 #[] #[] 1537 3 #[] #[])
  fields := #[]
  methods := #[]
  instanceTypes := #[]
  staticTypes := #[]
  resolved := Array.replicate 7 none
  statics := none }

def pool3 : Array CpInfo := pool [(1, .class_ 2), (0, u "java/lang/Comparable"), (0, .class_ 4), (0, u "java/lang/Object")] 7

/-- java/lang/Comparable -/
def k3 : Class := { plain "java/lang/Comparable" (some 0) with
  accessFlags := 1537
  interfaces := #[]
  cf := some (fileOf pool3 1 #[] #[] 1537 3 #[] #[])
  fields := #[]
  methods := #[]
  instanceTypes := #[]
  staticTypes := #[]
  resolved := Array.replicate 12 none
  statics := none }

def pool4 : Array CpInfo := pool [(2, .class_ 4), (1, u "java/lang/CharSequence"), (42, .class_ 48), (0, u "java/lang/CharSequence$1CodePointIterator"), (10, .class_ 60), (0, u "java/lang/CharSequence$1CharIterator"), (5, .class_ 67), (0, u "java/lang/Object")] 63

/-- java/lang/CharSequence -/
def k4 : Class := { plain "java/lang/CharSequence" (some 0) with
  accessFlags := 1537
  interfaces := #[]
  cf := some (fileOf pool4 2 #[.nestMembers #[47, 59]] #[] 1537 66 #[] #[])
  fields := #[]
  methods := #[]
  instanceTypes := #[]
  staticTypes := #[]
  resolved := Array.replicate 131 none
  statics := none }

def pool5 : Array CpInfo := pool [(1, .class_ 2), (0, u "java/lang/constant/Constable"), (0, .class_ 4), (0, u "java/lang/Object")] 6

/-- java/lang/constant/Constable -/
def k5 : Class := { plain "java/lang/constant/Constable" (some 0) with
  accessFlags := 1537
  interfaces := #[]
  cf := some (fileOf pool5 1 #[] #[] 1537 3 #[] #[])
  fields := #[]
  methods := #[]
  instanceTypes := #[]
  staticTypes := #[]
  resolved := Array.replicate 11 none
  statics := none }

def pool6 : Array CpInfo := pool [(1, .class_ 2), (0, u "java/lang/constant/ConstantDesc"), (0, .class_ 4), (0, u "java/lang/Object")] 32

/-- java/lang/constant/ConstantDesc -/
def k6 : Class := { plain "java/lang/constant/ConstantDesc" (some 0) with
  accessFlags := 1537
  interfaces := #[]
  cf := some (fileOf pool6 1 #[] #[] 1537 3 #[] #[])
  fields := #[]
  methods := #[]
  instanceTypes := #[]
  staticTypes := #[]
  resolved := Array.replicate 37 none
  statics := none }

def pool7 : Array CpInfo := pool [(1, .methodref 2 3), (0, .class_ 4), (0, .nameAndType 5 6), (0, u "java/lang/Object"), (0, u "<init>"), (0, u "()V"), (2, .fieldref 10 11), (0, .class_ 12), (0, .nameAndType 13 14), (0, u "java/lang/String"), (0, u "value"), (0, u "[B"), (0, .fieldref 10 16), (0, .nameAndType 17 18), (0, u "coder"), (0, u "B"), (2, u "hash"), (0, u "I"), (2, u "hashIsZero"), (0, u "Z"), (11, .fieldref 10 39), (0, .nameAndType 40 26), (0, u "COMPACT_STRINGS"), (12, u "toBytes"), (53, .class_ 109), (1, u "java/lang/StringLatin1"), (99, .methodref 10 210), (0, .nameAndType 5 211), (0, u "([BB)V"), (157, u "(C)Z"), (205, .class_ 576), (0, u "java/lang/CharSequence"), (22, u "CASE_INSENSITIVE_ORDER"), (0, u "Ljava/util/Comparator;"), (181, u "valueOf"), (0, u "(C)Ljava/lang/String;"), (231, .methodref 107 1016), (0, .nameAndType 1017 369), (0, u "canEncode"), (0, .methodref 107 1019), (0, .nameAndType 53 1020), (0, u "(C)[B"), (80, u "serialPersistentFields"), (0, u "[Ljava/io/ObjectStreamField;"), (0, .class_ 1104), (0, u "java/lang/String$CaseInsensitiveComparator"), (1, .class_ 1107), (0, u "java/io/Serializable"), (0, .class_ 1109), (0, u "java/lang/Comparable"), (0, .class_ 1111), (0, u "java/lang/constant/Constable"), (0, .class_ 1113), (0, u "java/lang/constant/ConstantDesc"), (2, u "serialVersionUID"), (0, u "J"), (3, u "REPL"), (0, u "C"), (2, u "LATIN1"), (1, u "UTF16")] 323

def k7m0 : Method := { name := "<init>", desc := "()V", sig := { parameters := [], returnType := none }, accessFlags := 1, code := none }
def k7c1 : Code := { maxStack := 4, maxLocals := 1, code := jdk_42_method_139_code, exceptionTable := #[], attributes := #[] }
def k7m1 : Method := { name := "valueOf", desc := "(C)Ljava/lang/String;", sig := { parameters := [.char], returnType := some (.object "java/lang/String") }, accessFlags := 9, code := some k7c1 }
def k7c2 : Code := { maxStack := 2, maxLocals := 3, code := jdk_42_method_151_code, exceptionTable := #[], attributes := #[] }
def k7m2 : Method := { name := "<init>", desc := "([BB)V", sig := { parameters := [(.array .byte), .byte], returnType := none }, accessFlags := 0, code := some k7c2 }
/-- java/lang/String -/
def k7 : Class := { plain "java/lang/String" (some 0) with
  accessFlags := 49
  interfaces := #[2, 3, 4, 5, 6]
  cf := some (fileOf pool7 10 #[.nestMembers #[1103]] #[{ accessFlags := 1, nameIndex := 5, descriptorIndex := 6, attributes := #[] }, { accessFlags := 9, nameIndex := 782, descriptorIndex := 783, attributes := #[] }, { accessFlags := 0, nameIndex := 5, descriptorIndex := 211, attributes := #[] }] 49 2 #[1106, 1108, 575, 1110, 1112] #[{ accessFlags := 18, nameIndex := 13, descriptorIndex := 14, attributes := #[] }, { accessFlags := 18, nameIndex := 17, descriptorIndex := 18, attributes := #[] }, { accessFlags := 2, nameIndex := 21, descriptorIndex := 22, attributes := #[] }, { accessFlags := 2, nameIndex := 25, descriptorIndex := 26, attributes := #[] }, { accessFlags := 26, nameIndex := 1116, descriptorIndex := 1117, attributes := #[] }, { accessFlags := 24, nameIndex := 40, descriptorIndex := 26, attributes := #[] }, { accessFlags := 26, nameIndex := 1101, descriptorIndex := 1102, attributes := #[] }, { accessFlags := 26, nameIndex := 1121, descriptorIndex := 1122, attributes := #[] }, { accessFlags := 25, nameIndex := 599, descriptorIndex := 600, attributes := #[] }, { accessFlags := 24, nameIndex := 1125, descriptorIndex := 18, attributes := #[] }, { accessFlags := 24, nameIndex := 1127, descriptorIndex := 18, attributes := #[] }])
  fields := #[{ name := "value", type := (.array .byte), accessFlags := 18, slot := 0, constantValue := 0 }, { name := "coder", type := .byte, accessFlags := 18, slot := 1, constantValue := 0 }, { name := "hash", type := .int, accessFlags := 2, slot := 2, constantValue := 0 }, { name := "hashIsZero", type := .boolean, accessFlags := 2, slot := 3, constantValue := 0 }, { name := "serialVersionUID", type := .long, accessFlags := 26, slot := 0, constantValue := 0 }, { name := "COMPACT_STRINGS", type := .boolean, accessFlags := 24, slot := 1, constantValue := 0 }, { name := "serialPersistentFields", type := (.array (.object "java/io/ObjectStreamField")), accessFlags := 26, slot := 2, constantValue := 0 }, { name := "REPL", type := .char, accessFlags := 26, slot := 3, constantValue := 0 }, { name := "CASE_INSENSITIVE_ORDER", type := (.object "java/util/Comparator"), accessFlags := 25, slot := 4, constantValue := 0 }, { name := "LATIN1", type := .byte, accessFlags := 24, slot := 5, constantValue := 0 }, { name := "UTF16", type := .byte, accessFlags := 24, slot := 6, constantValue := 0 }]
  methods := #[k7m0, k7m1, k7m2]
  instanceTypes := #[(.array .byte), .byte, .int, .boolean]
  staticTypes := #[.long, .boolean, (.array (.object "java/io/ObjectStreamField")), .char, (.object "java/util/Comparator"), .byte, .byte]
  resolved := Array.replicate 1451 none
  statics := some 0 }

def pool8 : Array CpInfo := pool [(4, .class_ 6), (1, u "java/lang/Object"), (0, u "<init>"), (0, u "()V"), (5, .class_ 16), (1, u "java/lang/StringLatin1"), (73, u "canEncode"), (14, u "(C)Z"), (15, u "$assertionsDisabled"), (0, u "Z"), (98, .class_ 223), (1, u "java/lang/StringLatin1$LinesSpliterator"), (156, u "toBytes"), (1, u "(C)[B"), (7, .class_ 391), (0, u "java/lang/StringLatin1$CharsSpliterator")] 3

def k8m0 : Method := { name := "<init>", desc := "()V", sig := { parameters := [], returnType := none }, accessFlags := 0, code := none }
def k8c1 : Code := { maxStack := 2, maxLocals := 1, code := jdk_43_method_3_code, exceptionTable := #[], attributes := #[] }
def k8m1 : Method := { name := "canEncode", desc := "(C)Z", sig := { parameters := [.char], returnType := some .boolean }, accessFlags := 9, code := some k8c1 }
def k8c2 : Code := { maxStack := 4, maxLocals := 1, code := jdk_43_method_46_code, exceptionTable := #[], attributes := #[] }
def k8m2 : Method := { name := "toBytes", desc := "(C)[B", sig := { parameters := [.char], returnType := some (.array .byte) }, accessFlags := 9, code := some k8c2 }
/-- java/lang/StringLatin1 -/
def k8 : Class := { plain "java/lang/StringLatin1" (some 0) with
  accessFlags := 48
  interfaces := #[]
  cf := some (fileOf pool8 14 #[.nestMembers #[390, 221]] #[{ accessFlags := 0, nameIndex := 7, descriptorIndex := 8, attributes := #[] }, { accessFlags := 9, nameIndex := 90, descriptorIndex := 105, attributes := #[] }, { accessFlags := 9, nameIndex := 380, descriptorIndex := 382, attributes := #[] }] 48 4 #[] #[{ accessFlags := 4120, nameIndex := 121, descriptorIndex := 122, attributes := #[] }])
  fields := #[{ name := "$assertionsDisabled", type := .boolean, accessFlags := 4120, slot := 0, constantValue := 0 }]
  methods := #[k8m0, k8m1, k8m2]
  instanceTypes := #[]
  staticTypes := #[.boolean]
  resolved := Array.replicate 395 none
  statics := none }

def pool9 : Array CpInfo := pool [(1, .methodref 2 3), (0, .class_ 4), (0, .nameAndType 5 6), (0, u "java/lang/Object"), (0, u "<init>"), (0, u "()V"), (0, .fieldref 8 9), (0, .class_ 10), (0, .nameAndType 11 12), (0, u "com/example/pactline/pactline/model/Service"), (0, u "id"), (0, u "Ljava/lang/String;"), (0, .fieldref 8 14), (0, .nameAndType 15 16), (0, u "values"), (0, u "[D"), (0, .fieldref 8 18), (0, .nameAndType 19 20), (0, u "written"), (0, u "[Ljava/lang/String;"), (2, u "toldApart"), (0, u "(I)Z"), (10, u "(Ljava/lang/String;[D[Ljava/lang/String;)V")] 12

def k9c0 : Code := { maxStack := 2, maxLocals := 4, code := prog_68_method_1_code, exceptionTable := #[], attributes := #[] }
def k9m0 : Method := { name := "<init>", desc := "(Ljava/lang/String;[D[Ljava/lang/String;)V", sig := { parameters := [(.object "java/lang/String"), (.array .double), (.array (.object "java/lang/String"))], returnType := none }, accessFlags := 0, code := some k9c0 }
def k9c1 : Code := { maxStack := 2, maxLocals := 2, code := prog_68_method_5_code, exceptionTable := #[], attributes := #[] }
def k9m1 : Method := { name := "toldApart", desc := "(I)Z", sig := { parameters := [.int], returnType := some .boolean }, accessFlags := 0, code := some k9c1 }
/-- com/example/pactline/pactline/model/Service -/
def k9 : Class := { plain "com/example/pactline/pactline/model/Service" (some 0) with
  accessFlags := 49
  interfaces := #[]
  cf := some (fileOf pool9 8 #[] #[{ accessFlags := 0, nameIndex := 5, descriptorIndex := 35, attributes := #[] }, { accessFlags := 0, nameIndex := 23, descriptorIndex := 24, attributes := #[] }] 49 2 #[] #[{ accessFlags := 18, nameIndex := 11, descriptorIndex := 12, attributes := #[] }, { accessFlags := 18, nameIndex := 15, descriptorIndex := 16, attributes := #[] }, { accessFlags := 18, nameIndex := 19, descriptorIndex := 20, attributes := #[] }])
  fields := #[{ name := "id", type := (.object "java/lang/String"), accessFlags := 18, slot := 0, constantValue := 0 }, { name := "values", type := (.array .double), accessFlags := 18, slot := 1, constantValue := 0 }, { name := "written", type := (.array (.object "java/lang/String")), accessFlags := 18, slot := 2, constantValue := 0 }]
  methods := #[k9m0, k9m1]
  instanceTypes := #[(.object "java/lang/String"), (.array .double), (.array (.object "java/lang/String"))]
  staticTypes := #[]
  resolved := Array.replicate 48 none
  statics := none }

def pool10 : Array CpInfo := pool [(2, .class_ 4), (1, u "java/lang/Object"), (0, u "<init>"), (0, u "()V"), (17, .class_ 26), (1, u "jdk/internal/util/Preconditions"), (28, .class_ 56), (0, u "jdk/internal/util/Preconditions$4"), (57, .class_ 115), (0, u "jdk/internal/util/Preconditions$1"), (7, u "SIOOBE_FORMATTER"), (0, u "Ljava/util/function/BiFunction;"), (0, .class_ 126), (0, u "jdk/internal/util/Preconditions$2"), (3, u "AIOOBE_FORMATTER"), (0, .class_ 132), (0, u "jdk/internal/util/Preconditions$3"), (3, u "IOOBE_FORMATTER")] 57

def k10m0 : Method := { name := "<init>", desc := "()V", sig := { parameters := [], returnType := none }, accessFlags := 1, code := none }
/-- jdk/internal/util/Preconditions -/
def k10 : Class := { plain "jdk/internal/util/Preconditions" (some 0) with
  accessFlags := 33
  interfaces := #[]
  cf := some (fileOf pool10 24 #[.nestMembers #[55, 131, 125, 114]] #[{ accessFlags := 1, nameIndex := 5, descriptorIndex := 6, attributes := #[] }] 33 2 #[] #[{ accessFlags := 25, nameIndex := 123, descriptorIndex := 124, attributes := #[] }, { accessFlags := 25, nameIndex := 130, descriptorIndex := 124, attributes := #[] }, { accessFlags := 25, nameIndex := 136, descriptorIndex := 124, attributes := #[] }])
  fields := #[{ name := "SIOOBE_FORMATTER", type := (.object "java/util/function/BiFunction"), accessFlags := 25, slot := 0, constantValue := 0 }, { name := "AIOOBE_FORMATTER", type := (.object "java/util/function/BiFunction"), accessFlags := 25, slot := 1, constantValue := 0 }, { name := "IOOBE_FORMATTER", type := (.object "java/util/function/BiFunction"), accessFlags := 25, slot := 2, constantValue := 0 }]
  methods := #[k10m0]
  instanceTypes := #[]
  staticTypes := #[(.object "java/util/function/BiFunction"), (.object "java/util/function/BiFunction"), (.object "java/util/function/BiFunction")]
  resolved := Array.replicate 194 none
  statics := some 1 }

def pool11 : Array CpInfo := pool [(9, u "<init>"), (6, .class_ 18), (1, u "java/lang/Object"), (0, u "()V"), (1, .class_ 23), (1, u "jdk/internal/util/ArraysSupport"), (0, u "LOG2_ARRAY_LONG_INDEX_SCALE"), (0, u "I"), (2, u "U"), (0, u "Ljdk/internal/misc/Unsafe;"), (8, u "BIG_ENDIAN"), (0, u "Z"), (8, u "LOG2_BYTE_BIT_SIZE"), (4, u "LOG2_ARRAY_INT_INDEX_SCALE"), (54, u "JLA"), (0, u "Ljdk/internal/access/JavaLangAccess;"), (11, u "LOG2_ARRAY_BOOLEAN_INDEX_SCALE"), (9, u "LOG2_ARRAY_BYTE_INDEX_SCALE"), (5, u "LOG2_ARRAY_CHAR_INDEX_SCALE"), (5, u "LOG2_ARRAY_SHORT_INDEX_SCALE"), (18, u "LOG2_ARRAY_FLOAT_INDEX_SCALE"), (24, u "LOG2_ARRAY_DOUBLE_INDEX_SCALE"), (89, u "T_BOOLEAN"), (2, u "T_CHAR"), (1, u "T_FLOAT"), (1, u "T_DOUBLE"), (1, u "T_BYTE"), (1, u "T_SHORT"), (1, u "T_INT"), (1, u "T_LONG"), (1, u "SOFT_MAX_ARRAY_LENGTH")] 83

def k11m0 : Method := { name := "<init>", desc := "()V", sig := { parameters := [], returnType := none }, accessFlags := 2, code := none }
/-- jdk/internal/util/ArraysSupport -/
def k11 : Class := { plain "jdk/internal/util/ArraysSupport" (some 0) with
  accessFlags := 33
  interfaces := #[]
  cf := some (fileOf pool11 21 #[] #[{ accessFlags := 2, nameIndex := 9, descriptorIndex := 19, attributes := #[] }] 33 16 #[] #[{ accessFlags := 24, nameIndex := 28, descriptorIndex := 29, attributes := #[] }, { accessFlags := 26, nameIndex := 38, descriptorIndex := 39, attributes := #[] }, { accessFlags := 25, nameIndex := 121, descriptorIndex := 25, attributes := #[] }, { accessFlags := 25, nameIndex := 131, descriptorIndex := 25, attributes := #[] }, { accessFlags := 25, nameIndex := 137, descriptorIndex := 25, attributes := #[] }, { accessFlags := 25, nameIndex := 143, descriptorIndex := 25, attributes := #[] }, { accessFlags := 25, nameIndex := 53, descriptorIndex := 25, attributes := #[] }, { accessFlags := 25, nameIndex := 24, descriptorIndex := 25, attributes := #[] }, { accessFlags := 25, nameIndex := 162, descriptorIndex := 25, attributes := #[] }, { accessFlags := 25, nameIndex := 187, descriptorIndex := 25, attributes := #[] }, { accessFlags := 26, nameIndex := 48, descriptorIndex := 25, attributes := #[] }, { accessFlags := 25, nameIndex := 277, descriptorIndex := 25, attributes := #[] }, { accessFlags := 25, nameIndex := 280, descriptorIndex := 25, attributes := #[] }, { accessFlags := 25, nameIndex := 282, descriptorIndex := 25, attributes := #[] }, { accessFlags := 25, nameIndex := 284, descriptorIndex := 25, attributes := #[] }, { accessFlags := 25, nameIndex := 286, descriptorIndex := 25, attributes := #[] }, { accessFlags := 25, nameIndex := 288, descriptorIndex := 25, attributes := #[] }, { accessFlags := 25, nameIndex := 290, descriptorIndex := 25, attributes := #[] }, { accessFlags := 25, nameIndex := 292, descriptorIndex := 25, attributes := #[] }, { accessFlags := 26, nameIndex := 108, descriptorIndex := 109, attributes := #[] }, { accessFlags := 25, nameIndex := 294, descriptorIndex := 25, attributes := #[] }])
  fields := #[{ name := "U", type := (.object "jdk/internal/misc/Unsafe"), accessFlags := 24, slot := 0, constantValue := 0 }, { name := "BIG_ENDIAN", type := .boolean, accessFlags := 26, slot := 1, constantValue := 0 }, { name := "LOG2_ARRAY_BOOLEAN_INDEX_SCALE", type := .int, accessFlags := 25, slot := 2, constantValue := 0 }, { name := "LOG2_ARRAY_BYTE_INDEX_SCALE", type := .int, accessFlags := 25, slot := 3, constantValue := 0 }, { name := "LOG2_ARRAY_CHAR_INDEX_SCALE", type := .int, accessFlags := 25, slot := 4, constantValue := 0 }, { name := "LOG2_ARRAY_SHORT_INDEX_SCALE", type := .int, accessFlags := 25, slot := 5, constantValue := 0 }, { name := "LOG2_ARRAY_INT_INDEX_SCALE", type := .int, accessFlags := 25, slot := 6, constantValue := 0 }, { name := "LOG2_ARRAY_LONG_INDEX_SCALE", type := .int, accessFlags := 25, slot := 7, constantValue := 0 }, { name := "LOG2_ARRAY_FLOAT_INDEX_SCALE", type := .int, accessFlags := 25, slot := 8, constantValue := 0 }, { name := "LOG2_ARRAY_DOUBLE_INDEX_SCALE", type := .int, accessFlags := 25, slot := 9, constantValue := 0 }, { name := "LOG2_BYTE_BIT_SIZE", type := .int, accessFlags := 26, slot := 10, constantValue := 0 }, { name := "T_BOOLEAN", type := .int, accessFlags := 25, slot := 11, constantValue := 0 }, { name := "T_CHAR", type := .int, accessFlags := 25, slot := 12, constantValue := 0 }, { name := "T_FLOAT", type := .int, accessFlags := 25, slot := 13, constantValue := 0 }, { name := "T_DOUBLE", type := .int, accessFlags := 25, slot := 14, constantValue := 0 }, { name := "T_BYTE", type := .int, accessFlags := 25, slot := 15, constantValue := 0 }, { name := "T_SHORT", type := .int, accessFlags := 25, slot := 16, constantValue := 0 }, { name := "T_INT", type := .int, accessFlags := 25, slot := 17, constantValue := 0 }, { name := "T_LONG", type := .int, accessFlags := 25, slot := 18, constantValue := 0 }, { name := "JLA", type := (.object "jdk/internal/access/JavaLangAccess"), accessFlags := 26, slot := 19, constantValue := 0 }, { name := "SOFT_MAX_ARRAY_LENGTH", type := .int, accessFlags := 25, slot := 20, constantValue := 0 }]
  methods := #[k11m0]
  instanceTypes := #[]
  staticTypes := #[(.object "jdk/internal/misc/Unsafe"), .boolean, .int, .int, .int, .int, .int, .int, .int, .int, .int, .int, .int, .int, .int, .int, .int, .int, .int, (.object "jdk/internal/access/JavaLangAccess"), .int]
  resolved := Array.replicate 378 none
  statics := none }

def pool12 : Array CpInfo := pool [(1, u "java/lang/Cloneable"), (0, .class_ 1), (0, u "java/lang/Object"), (0, .class_ 3)] 3

/-- java/lang/Cloneable -/
def k12 : Class := { plain "java/lang/Cloneable" (some 0) with
  accessFlags := 1537
  interfaces := #[]
  cf := some (fileOf pool12 2 #[] #[] 1537 4 #[] #[])
  fields := #[]
  methods := #[]
  instanceTypes := #[]
  staticTypes := #[]
  resolved := Array.replicate 8 none
  statics := none }

/-- the primitive byte -/
def k13 : Class := { plain "byte" none with kind := .primitive 'B', accessFlags := 0x411 }
/-- [B -/
def k14 : Class := { plain "[B" (some 0) with kind := .array 13 .byte, interfaces := #[12, 2], accessFlags := 1041 }

/-- the primitive double -/
def k15 : Class := { plain "double" none with kind := .primitive 'D', accessFlags := 0x411 }
/-- [D -/
def k16 : Class := { plain "[D" (some 0) with kind := .array 15 .double, interfaces := #[12, 2], accessFlags := 1041 }

/-- the primitive int -/
def k17 : Class := { plain "int" none with kind := .primitive 'I', accessFlags := 0x411 }
/-- [I -/
def k18 : Class := { plain "[I" (some 0) with kind := .array 17 .int, interfaces := #[12, 2], accessFlags := 1041 }

/-- [Ljava/lang/String; -/
def k19 : Class := { plain "[Ljava/lang/String;" (some 0) with kind := .array 7 (.object "java/lang/String"), interfaces := #[12, 2], accessFlags := 1041 }

def heap : Heap := #[{ cls := 7, slots := #[.long 0, .int 1, .null, .int 0, .null, .int 0, .int 0], vm := .statics 7 },
  { cls := 10, slots := #[.null, .null, .null], vm := .statics 10 }]
def classes : Array Class := #[k0, k1, k2, k3, k4, k5, k6, k7, k8, k9, k10, k11, k12, k13, k14, k15, k16, k17, k18, k19]
def interned : List (Array UInt16 × Addr) := []
def slotsUsed : Nat := 10
def theMethod : MethodId := ⟨1, 1⟩
def args0 : Array Value := #[.int 5, .int 3, .int 7]
def aboutOver (below : List Frame) : State where
  vm := { classes := classes, interned := interned.toArray }
  heap := heap
  slotsUsed := slotsUsed
  threads := #[{ frames := .invoking theMethod args0 :: below }]
def below0 : List Frame := [.native { method := ⟨0, 0⟩, args := #[] }]
def about1 : State := aboutOver below0
def p0 : Program := .bare "" "" ""
def e0 : Env := launch0.env 0 0 0
theorem w_frames : about1.frames = Frame.invoking theMethod args0 :: below0 := rfl
set_option maxRecDepth 65536 in
theorem w_args : argsFit about1.vm theMethod args0 = true := by decide +kernel
set_option maxRecDepth 65536 in
theorem w_heap : heapFits about1 = true := by decide +kernel
set_option maxRecDepth 65536 in
theorem w_runnable : about1.curStatus? = some .runnable := by decide +kernel
set_option maxRecDepth 65536 in
theorem w_alone : about1.alone = true := by decide +kernel
set_option maxRecDepth 65536 in
theorem w_named : about1.methodNamed? x = some theMethod := by decide +kernel
set_option maxRecDepth 65536 in
theorem w_hears : about1.hears theMethod below0 = true := by decide +kernel
set_option maxRecDepth 65536 in
theorem w_ripe : about1.ripe theMethod args0 below0 = true := by decide +kernel
theorem w_running : about1.status = .running := rfl
set_option maxRecDepth 65536 in
theorem w_room : about1.hasRoom e0.platform room_1 = true :=
  launch0.hasRoom_least _ room_1 (by decide +kernel) (by decide +kernel) (by decide +kernel) (by decide +kernel) (by decide +kernel) (by decide +kernel)
theorem allAtoms_all (ts : List Jvm.Cond) (a : Array Jvm.Value) (st : Jvm.State) : (allAtoms ts).before a st = ts.all (fun c => c.before a st) := by
  induction ts with
  | nil => rfl
  | cons c t ih =>
    show (Jvm.Cond.and c (allAtoms t)).before a st = _
    rw [Jvm.Cond.before_and, ih, List.all_cons]
def words1 : List Jvm.Cond := Jvm.Cond.code x code maxLocals ret :: tables_1
/-- a 'code' word, met by the world's own term for the bytes: nothing is compared byte by byte -/
theorem code_word {y : MethodName} {bytes : ByteArray} {mx : Nat} {rt : Option FieldType} {a : Array Value} {s : State} {m : MethodId} {meth : Method} {c : Code} (h1 : s.methodNamed? y = some m) (h2 : s.vm.method? m = some meth) (h3 : meth.code = some c) (h4 : c.code = bytes)
    (h5 : (c.maxLocals == mx && c.exceptionTable.isEmpty && decide (c.maxStack ≤ mostOperands) && decide (meth.sig.returnType = rt) && !meth.locks && decide (parseMethodDescriptor y.desc = some meth.sig)) = true) : (Jvm.Cond.code y bytes mx rt).before a s = true := by
  simp only [Bool.and_eq_true, beq_iff_eq, Bool.not_eq_true', decide_eq_true_eq] at h5
  obtain ⟨⟨⟨⟨⟨g1, g2⟩, g3⟩, g4⟩, g5⟩, g6⟩ := h5
  simp [Cond.before, Cond.holds, Cond.value, h1, h2, h3, h4, g1, g2, g3, g4, g5, g6]
def isCode : Jvm.Cond → Bool
  | .code _ _ _ _ => true
  | _ => false
theorem all_split {L : List Jvm.Cond} {P : Jvm.Cond → Bool} (h1 : L.all (fun c => isCode c || P c) = true) (h2 : ∀ c ∈ L.filter isCode, P c = true) : L.all P = true := by
  refine List.all_eq_true.mpr fun c hc => ?_
  have h := List.all_eq_true.mp h1 c hc
  rcases Bool.eq_false_or_eq_true (isCode c) with hi | hi
  · exact h2 c (List.mem_filter.mpr ⟨hc, hi⟩)
  · simpa [hi] using h
set_option maxRecDepth 65536 in
theorem w_c0 : (Jvm.Cond.code x code maxLocals ret).before args0 about1 = true := code_word (m := ⟨1, 1⟩) (meth := k1m1) (c := k1c1) (by decide +kernel) rfl rfl rfl (by decide +kernel)
set_option maxRecDepth 65536 in
theorem w_c1 : (Jvm.Cond.code ({ cls := "java/lang/String", name := "valueOf", desc := "(C)Ljava/lang/String;" } : Jvm.MethodName) jdk_42_method_139_code (1 : Nat) (Option.some (Jvm.ClassFile.FieldType.object "java/lang/String"))).before args0 about1 = true := code_word (m := ⟨7, 1⟩) (meth := k7m1) (c := k7c1) (by decide +kernel) rfl rfl rfl (by decide +kernel)
set_option maxRecDepth 65536 in
theorem w_c2 : (Jvm.Cond.code ({ cls := "java/lang/StringLatin1", name := "canEncode", desc := "(C)Z" } : Jvm.MethodName) jdk_43_method_3_code (1 : Nat) (Option.some Jvm.ClassFile.FieldType.boolean)).before args0 about1 = true := code_word (m := ⟨8, 1⟩) (meth := k8m1) (c := k8c1) (by decide +kernel) rfl rfl rfl (by decide +kernel)
set_option maxRecDepth 65536 in
theorem w_c3 : (Jvm.Cond.code ({ cls := "java/lang/StringLatin1", name := "toBytes", desc := "(C)[B" } : Jvm.MethodName) jdk_43_method_46_code (1 : Nat) (Option.some (Jvm.ClassFile.FieldType.array Jvm.ClassFile.FieldType.byte))).before args0 about1 = true := code_word (m := ⟨8, 2⟩) (meth := k8m2) (c := k8c2) (by decide +kernel) rfl rfl rfl (by decide +kernel)
set_option maxRecDepth 65536 in
theorem w_c4 : (Jvm.Cond.code ({ cls := "java/lang/String", name := "<init>", desc := "([BB)V" } : Jvm.MethodName) jdk_42_method_151_code (3 : Nat) (Option.none : Option Jvm.ClassFile.FieldType)).before args0 about1 = true := code_word (m := ⟨7, 2⟩) (meth := k7m2) (c := k7c2) (by decide +kernel) rfl rfl rfl (by decide +kernel)
set_option maxRecDepth 65536 in
theorem w_c5 : (Jvm.Cond.code ({ cls := "java/lang/Object", name := "<init>", desc := "()V" } : Jvm.MethodName) object_method_1_code (1 : Nat) (Option.none : Option Jvm.ClassFile.FieldType)).before args0 about1 = true := code_word (m := ⟨0, 0⟩) (meth := k0m0) (c := k0c0) (by decide +kernel) rfl rfl rfl (by decide +kernel)
set_option maxRecDepth 65536 in
theorem w_c6 : (Jvm.Cond.code ({ cls := "com/example/pactline/pactline/model/Service", name := "<init>", desc := "(Ljava/lang/String;[D[Ljava/lang/String;)V" } : Jvm.MethodName) prog_68_method_1_code (4 : Nat) (Option.none : Option Jvm.ClassFile.FieldType)).before args0 about1 = true := code_word (m := ⟨9, 0⟩) (meth := k9m0) (c := k9c0) (by decide +kernel) rfl rfl rfl (by decide +kernel)
set_option maxRecDepth 65536 in
theorem w_c7 : (Jvm.Cond.code ({ cls := "com/example/pactline/pactline/model/Service", name := "toldApart", desc := "(I)Z" } : Jvm.MethodName) prog_68_method_5_code (2 : Nat) (Option.some Jvm.ClassFile.FieldType.boolean)).before args0 about1 = true := code_word (m := ⟨9, 1⟩) (meth := k9m1) (c := k9c1) (by decide +kernel) rfl rfl rfl (by decide +kernel)
def codes1 : List Jvm.Cond := [Jvm.Cond.code x code maxLocals ret, Jvm.Cond.code ({ cls := "java/lang/String", name := "valueOf", desc := "(C)Ljava/lang/String;" } : Jvm.MethodName) jdk_42_method_139_code (1 : Nat) (Option.some (Jvm.ClassFile.FieldType.object "java/lang/String")), Jvm.Cond.code ({ cls := "java/lang/StringLatin1", name := "canEncode", desc := "(C)Z" } : Jvm.MethodName) jdk_43_method_3_code (1 : Nat) (Option.some Jvm.ClassFile.FieldType.boolean), Jvm.Cond.code ({ cls := "java/lang/StringLatin1", name := "toBytes", desc := "(C)[B" } : Jvm.MethodName) jdk_43_method_46_code (1 : Nat) (Option.some (Jvm.ClassFile.FieldType.array Jvm.ClassFile.FieldType.byte)), Jvm.Cond.code ({ cls := "java/lang/String", name := "<init>", desc := "([BB)V" } : Jvm.MethodName) jdk_42_method_151_code (3 : Nat) (Option.none : Option Jvm.ClassFile.FieldType), Jvm.Cond.code ({ cls := "java/lang/Object", name := "<init>", desc := "()V" } : Jvm.MethodName) object_method_1_code (1 : Nat) (Option.none : Option Jvm.ClassFile.FieldType), Jvm.Cond.code ({ cls := "com/example/pactline/pactline/model/Service", name := "<init>", desc := "(Ljava/lang/String;[D[Ljava/lang/String;)V" } : Jvm.MethodName) prog_68_method_1_code (4 : Nat) (Option.none : Option Jvm.ClassFile.FieldType), Jvm.Cond.code ({ cls := "com/example/pactline/pactline/model/Service", name := "toldApart", desc := "(I)Z" } : Jvm.MethodName) prog_68_method_5_code (2 : Nat) (Option.some Jvm.ClassFile.FieldType.boolean)]
set_option maxRecDepth 65536 in
theorem codes_eq : words1.filter isCode = codes1 := rfl
theorem w_codes : ∀ c ∈ words1.filter isCode, c.before args0 about1 = true := by
  rw [codes_eq]
  intro c hc
  simp only [codes1, List.mem_cons, List.not_mem_nil, or_false] at hc
  rcases hc with rfl | rfl | rfl | rfl | rfl | rfl | rfl | rfl
  · exact w_c0
  · exact w_c1
  · exact w_c2
  · exact w_c3
  · exact w_c4
  · exact w_c5
  · exact w_c6
  · exact w_c7
set_option maxRecDepth 65536 in
theorem w_t1 : (words1.take 24).all (fun c => isCode c || c.before args0 about1) = true := by decide +kernel
set_option maxRecDepth 65536 in
theorem w_t2 : ((words1.drop 24).take 24).all (fun c => isCode c || c.before args0 about1) = true := by decide +kernel
set_option maxRecDepth 65536 in
theorem w_t3 : ((words1.drop 24).drop 24).all (fun c => isCode c || c.before args0 about1) = true := by decide +kernel
theorem w_tables : (allAtoms (Jvm.Cond.code x code maxLocals ret :: tables_1)).before args0 about1 = true := by
  rw [allAtoms_all]
  show words1.all (fun c => c.before args0 about1) = true
  refine all_split ?_ w_codes
  rw [← List.take_append_drop 24 words1, List.all_append, w_t1, ← List.take_append_drop 24 (words1.drop 24), List.all_append, w_t2, w_t3]
  rfl
set_option maxRecDepth 65536 in
theorem w_rest : rest_1_c.before args0 about1 = true := by decide +kernel
set_option maxRecDepth 65536 in
theorem w_case : (Jvm.Cond.and given_1 narrow_1).before args0 about1 = true := by decide +kernel
theorem w_applies : (headSpec (Jvm.Cond.code x code maxLocals ret :: tables_1) room_1).applies x e0.platform about1 = true :=
  (Spec.applies_iff w_frames).mpr ⟨w_running, w_runnable, w_alone, w_named, w_hears, w_ripe, w_room, w_tables⟩
theorem atStart : AtStart classFile x code maxLocals ret World_1 tables_1 room_1 Calls_1 rest_1 Pre_1 launch0 p0 e0 about1 theMethod args0 below0 :=
  ⟨lists_1, trivial, launch0.admits_env _ _ _, launch0.least_env, fairChoices_fair.cas, fairChoices_fair.clock, w_frames, w_args, w_heap, w_applies, trivial, w_rest, w_case⟩
end start1
theorem witness_1 : WitnessClaimed_1 := ⟨start1.p0, start1.e0, start1.about1, start1.theMethod, start1.args0, start1.below0, start1.atStart⟩
end Jvm.Pilot.@@N@@
