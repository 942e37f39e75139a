import PyProof.Rows.All
import Wide.All
import OpenK.AllK
import Wide.FinOn
import PySem.Challenge.RW_il0086_01
set_option Elab.async false
section
namespace Mine
universe u1 u2 u3 u4 u5 u6 u7 u8 u9 u10 u11 u12 u13
inductive Ex2 {A' : Sort u1} {B' : Sort u2} (P : A' → B' → Prop) : Prop
  | intro (a0 : A') (a1 : B') (h : P a0 a1) : Ex2 P
inductive Ex3 {A' : Sort u1} {B' : Sort u2} {C' : Sort u3} (P : A' → B' → C' → Prop) : Prop
  | intro (a0 : A') (a1 : B') (a2 : C') (h : P a0 a1 a2) : Ex3 P
inductive Ex4 {A' : Sort u1} {B' : Sort u2} {C' : Sort u3} {D' : Sort u4} (P : A' → B' → C' → D' → Prop) : Prop
  | intro (a0 : A') (a1 : B') (a2 : C') (a3 : D') (h : P a0 a1 a2 a3) : Ex4 P
inductive Ex5 {A' : Sort u1} {B' : Sort u2} {C' : Sort u3} {D' : Sort u4} {E' : Sort u5} (P : A' → B' → C' → D' → E' → Prop) : Prop
  | intro (a0 : A') (a1 : B') (a2 : C') (a3 : D') (a4 : E') (h : P a0 a1 a2 a3 a4) : Ex5 P
inductive Ex6 {A' : Sort u1} {B' : Sort u2} {C' : Sort u3} {D' : Sort u4} {E' : Sort u5} {F' : Sort u6} (P : A' → B' → C' → D' → E' → F' → Prop) : Prop
  | intro (a0 : A') (a1 : B') (a2 : C') (a3 : D') (a4 : E') (a5 : F') (h : P a0 a1 a2 a3 a4 a5) : Ex6 P
inductive Ex7 {A' : Sort u1} {B' : Sort u2} {C' : Sort u3} {D' : Sort u4} {E' : Sort u5} {F' : Sort u6} {G' : Sort u7} (P : A' → B' → C' → D' → E' → F' → G' → Prop) : Prop
  | intro (a0 : A') (a1 : B') (a2 : C') (a3 : D') (a4 : E') (a5 : F') (a6 : G') (h : P a0 a1 a2 a3 a4 a5 a6) : Ex7 P
inductive Ex10 {A' : Sort u1} {B' : Sort u2} {C' : Sort u3} {D' : Sort u4} {E' : Sort u5} {F' : Sort u6} {G' : Sort u7} {H' : Sort u8} {I' : Sort u9} {J' : Sort u10} (P : A' → B' → C' → D' → E' → F' → G' → H' → I' → J' → Prop) : Prop
  | intro (a0 : A') (a1 : B') (a2 : C') (a3 : D') (a4 : E') (a5 : F') (a6 : G') (a7 : H') (a8 : I') (a9 : J') (h : P a0 a1 a2 a3 a4 a5 a6 a7 a8 a9) : Ex10 P
inductive Ex11 {A' : Sort u1} {B' : Sort u2} {C' : Sort u3} {D' : Sort u4} {E' : Sort u5} {F' : Sort u6} {G' : Sort u7} {H' : Sort u8} {I' : Sort u9} {J' : Sort u10} {K' : Sort u11} (P : A' → B' → C' → D' → E' → F' → G' → H' → I' → J' → K' → Prop) : Prop
  | intro (a0 : A') (a1 : B') (a2 : C') (a3 : D') (a4 : E') (a5 : F') (a6 : G') (a7 : H') (a8 : I') (a9 : J') (a10 : K') (h : P a0 a1 a2 a3 a4 a5 a6 a7 a8 a9 a10) : Ex11 P
inductive Ex13 {A' : Sort u1} {B' : Sort u2} {C' : Sort u3} {D' : Sort u4} {E' : Sort u5} {F' : Sort u6} {G' : Sort u7} {H' : Sort u8} {I' : Sort u9} {J' : Sort u10} {K' : Sort u11} {L' : Sort u12} {M' : Sort u13} (P : A' → B' → C' → D' → E' → F' → G' → H' → I' → J' → K' → L' → M' → Prop) : Prop
  | intro (a0 : A') (a1 : B') (a2 : C') (a3 : D') (a4 : E') (a5 : F') (a6 : G') (a7 : H') (a8 : I') (a9 : J') (a10 : K') (a11 : L') (a12 : M') (h : P a0 a1 a2 a3 a4 a5 a6 a7 a8 a9 a10 a11 a12) : Ex13 P
inductive And3 (p0 p1 p2 : Prop) : Prop
  | intro (h0 : p0) (h1 : p1) (h2 : p2) : And3 p0 p1 p2
inductive And4 (p0 p1 p2 p3 : Prop) : Prop
  | intro (h0 : p0) (h1 : p1) (h2 : p2) (h3 : p3) : And4 p0 p1 p2 p3
inductive And5 (p0 p1 p2 p3 p4 : Prop) : Prop
  | intro (h0 : p0) (h1 : p1) (h2 : p2) (h3 : p3) (h4 : p4) : And5 p0 p1 p2 p3 p4
inductive And6 (p0 p1 p2 p3 p4 p5 : Prop) : Prop
  | intro (h0 : p0) (h1 : p1) (h2 : p2) (h3 : p3) (h4 : p4) (h5 : p5) : And6 p0 p1 p2 p3 p4 p5
inductive And7 (p0 p1 p2 p3 p4 p5 p6 : Prop) : Prop
  | intro (h0 : p0) (h1 : p1) (h2 : p2) (h3 : p3) (h4 : p4) (h5 : p5) (h6 : p6) : And7 p0 p1 p2 p3 p4 p5 p6
inductive And8 (p0 p1 p2 p3 p4 p5 p6 p7 : Prop) : Prop
  | intro (h0 : p0) (h1 : p1) (h2 : p2) (h3 : p3) (h4 : p4) (h5 : p5) (h6 : p6) (h7 : p7) : And8 p0 p1 p2 p3 p4 p5 p6 p7
inductive And9 (p0 p1 p2 p3 p4 p5 p6 p7 p8 : Prop) : Prop
  | intro (h0 : p0) (h1 : p1) (h2 : p2) (h3 : p3) (h4 : p4) (h5 : p5) (h6 : p6) (h7 : p7) (h8 : p8) : And9 p0 p1 p2 p3 p4 p5 p6 p7 p8
inductive And10 (p0 p1 p2 p3 p4 p5 p6 p7 p8 p9 : Prop) : Prop
  | intro (h0 : p0) (h1 : p1) (h2 : p2) (h3 : p3) (h4 : p4) (h5 : p5) (h6 : p6) (h7 : p7) (h8 : p8) (h9 : p9) : And10 p0 p1 p2 p3 p4 p5 p6 p7 p8 p9
inductive And11 (p0 p1 p2 p3 p4 p5 p6 p7 p8 p9 p10 : Prop) : Prop
  | intro (h0 : p0) (h1 : p1) (h2 : p2) (h3 : p3) (h4 : p4) (h5 : p5) (h6 : p6) (h7 : p7) (h8 : p8) (h9 : p9) (h10 : p10) : And11 p0 p1 p2 p3 p4 p5 p6 p7 p8 p9 p10
inductive And12 (p0 p1 p2 p3 p4 p5 p6 p7 p8 p9 p10 p11 : Prop) : Prop
  | intro (h0 : p0) (h1 : p1) (h2 : p2) (h3 : p3) (h4 : p4) (h5 : p5) (h6 : p6) (h7 : p7) (h8 : p8) (h9 : p9) (h10 : p10) (h11 : p11) : And12 p0 p1 p2 p3 p4 p5 p6 p7 p8 p9 p10 p11
inductive And13 (p0 p1 p2 p3 p4 p5 p6 p7 p8 p9 p10 p11 p12 : Prop) : Prop
  | intro (h0 : p0) (h1 : p1) (h2 : p2) (h3 : p3) (h4 : p4) (h5 : p5) (h6 : p6) (h7 : p7) (h8 : p8) (h9 : p9) (h10 : p10) (h11 : p11) (h12 : p12) : And13 p0 p1 p2 p3 p4 p5 p6 p7 p8 p9 p10 p11 p12
inductive And17 (p0 p1 p2 p3 p4 p5 p6 p7 p8 p9 p10 p11 p12 p13 p14 p15 p16 : Prop) : Prop
  | intro (h0 : p0) (h1 : p1) (h2 : p2) (h3 : p3) (h4 : p4) (h5 : p5) (h6 : p6) (h7 : p7) (h8 : p8) (h9 : p9) (h10 : p10) (h11 : p11) (h12 : p12) (h13 : p13) (h14 : p14) (h15 : p15) (h16 : p16) : And17 p0 p1 p2 p3 p4 p5 p6 p7 p8 p9 p10 p11 p12 p13 p14 p15 p16
theorem room0 {x c L : Nat} (h : x + c < L) : x < L := Nat.lt_of_le_of_lt (Nat.le_add_right x c) h
theorem room1 {x a c L : Nat} (h : x + c < L) (hb : Nat.ble a c = true) : x + a < L := Nat.lt_of_le_of_lt (Nat.add_le_add_left (Nat.le_of_ble_eq_true hb) x) h
theorem room2 {x a b c L : Nat} (h : x + c < L) (hb : Nat.ble (a + b) c = true) : x + a + b < L := by rw [Nat.add_assoc]; exact room1 h hb
theorem blt {a b : Nat} (h : Nat.ble (a + 1) b = true) : a < b := Nat.le_of_ble_eq_true h
theorem ar4 {a b c d e : Prop} (h : a ∧ b ∧ c ∧ d ∧ e) : e := h.2.2.2.2
theorem up1 (n : Nat) : n + 1 ≠ n := Nat.ne_of_gt (Nat.lt_add_of_pos_right (k := 1) (by decide))
theorem up2 (n : Nat) : n + 1 + 1 ≠ n := Nat.ne_of_gt (Nat.lt_add_of_pos_right (k := 2) (by decide))
theorem up3 (n : Nat) : n + 1 + 1 + 1 ≠ n := Nat.ne_of_gt (Nat.lt_add_of_pos_right (k := 3) (by decide))
theorem up4 (n : Nat) : n + 1 + 1 + 1 + 1 ≠ n := Nat.ne_of_gt (Nat.lt_add_of_pos_right (k := 4) (by decide))
theorem dn1 (n : Nat) : n ≠ n + 1 := (up1 n).symm
theorem dn2 (n : Nat) : n ≠ n + 1 + 1 := (up2 n).symm
theorem dn3 (n : Nat) : n ≠ n + 1 + 1 + 1 := (up3 n).symm
theorem dn4 (n : Nat) : n ≠ n + 1 + 1 + 1 + 1 := (up4 n).symm
theorem lit_le {a b c : Nat} (h : a ≤ b) (hb : Nat.ble b c = true) : a ≤ c := Nat.le_trans h (Nat.le_of_ble_eq_true hb)
theorem lit_lt {a b c : Nat} (h : a ≤ b) (hb : Nat.ble (b + 1) c = true) : a < c := Nat.lt_of_le_of_lt h (Nat.le_of_ble_eq_true hb)
end Mine
end
section
open PySem PySem.W PyProof.Rows PySem.Calls PySem.Spec
set_option maxRecDepth 100000
namespace Mine
theorem kind_isn : builtinKind "issubclass.nested" = none := by decide +kernel
theorem plain_isn : plainId "issubclass.nested" = true := by decide +kernel
theorem args_isn (a b c : Value) : argsOk "issubclass.nested" ⟨[a, b, c], []⟩ := by unfold argsOk; kernel_rfl
theorem sub_str : isSubtype (.type "str") (.type "str") = pure true := by rw [isSubtype_type]; kernel_rfl
theorem sub_tup : isSubtype (.type "tuple") (.type "tuple") = pure true := by rw [isSubtype_type]; kernel_rfl
section
variable {prog : Program} {w : World} {A : Around} {E : Value → Shared → Prop} {s : Shared}
theorem isn_self {dep : Int} {tk : Tok} {Q : Fin → Shared → Prop} (hq : ∀ tk', Q (.done (.ret (.bool true))) { s with toks := tk' }) :
    wpAny (model prog w) A (Builtin.«issubclass.nested» ⟨[.type "str", .type "str", .int dep tk], []⟩) Q E s := by
  obtain ⟨h, g, d, t, os⟩ := s
  have f1 := sub_str
  have f2 : typeOf (.type "str") = pure (.type "type") := by first | rfl | kernel_rfl
  unfold Builtin.«issubclass.nested»
  repeat (any_goals (first | assumption | (rw [f2]) | (rw [f1]) | wp_step))
  exact hq t
theorem isn_self_meets {dep : Int} {tk : Tok} : Meets (Builtin.«issubclass.nested» ⟨[.type "str", .type "str", .int dep tk], []⟩) (fun _ R s => ∀ tk', R (.ok (.ret (.bool true))) { s with toks := tk' }) :=
  fun _ _ _ _ _ hs => isn_self hs
theorem isn_items {dep : Int} {c : Value} (s : Shared) (Q : Option Fin × Unit → Shared → Prop) (h : ∀ tk, Q (some (.done (.ret (.bool true))), ()) { s with toks := tk }) :
    wpAny (model prog w) A (forIn [.type "str", c] ((none : Option Fin), ()) fun c _ => do
      if ← truthy (← call (.builtin "issubclass.nested") [.type "str", c, rawInt (dep + 1)]) then
        let r ← ret (.bool true)
        pure (ForInStep.done (some r, ()))
      else pure (ForInStep.yield (none, ()))) Q E s := by
  rw [List.forIn_cons]
  refine wpAny_bind (wpAny_bind (call_function_meets kind_isn plain_isn PySem.F.entry_issubclass_nested (args_isn _ _ _) isn_self_meets fun tk' => ?_))
  show wpAny _ _ (truthy (.bool true) >>= _) _ _ _
  refine wpAny_bind (m := truthy (.bool true)) (wpAny_pure ?_)
  exact wpAny_bind (wpAny_pure (wpAny_pure (wpAny_pure (h tk'))))
theorem isn_tup {tp : Addr} {c : Value} {arr : Array Value} (harr : arr = [.type "str", c].toArray) {tk : Tok} {Q : Fin → Shared → Prop} (htp : s.heap.get? tp = some { cls := .type "tuple", data := .seq arr })
    (hq : ∀ tk', Q (.done (.ret (.bool true))) { s with toks := tk' }) : wpAny (model prog w) A (Builtin.«issubclass.nested» ⟨[.type "str", .ref tp, .int 0 tk], []⟩) Q E s := by
  obtain ⟨h, g, d, t, os⟩ := s
  have hT2 : (⟨h, g, d, t, os⟩ : Shared).TypeIs (.ref tp) "tuple" := ⟨_, htp, rfl⟩
  have f1 := sub_tup
  repeat (any_goals (first | assumption | wp_step))
  refine wpAny_arrayLoop ?_
  subst harr
  simp only [Option.getD_some, List.toList_toArray]
  refine isn_items (dep := 0) _ _ fun tk' => ?_
  repeat (any_goals (first | assumption | wp_step))
  exact hq tk'
theorem issub_tup {tp : Addr} {c : Value} {Q : Value → Shared → Prop} (htp : s.heap.get? tp = some { cls := .type "tuple", data := .seq [.type "str", c].toArray }) (hq : ∀ tk', Q (.bool true) { s with toks := tk' }) :
    wpAny (model prog w) A (call (.builtin "issubclass") [.type "str", .ref tp]) Q E s :=
  call_issubclass (S := fun _ R s => s.heap.get? tp = some { cls := .type "tuple", data := .seq [.type "str", c].toArray } ∧ ∀ tk', R (.ok (.ret (.bool true))) { s with toks := tk' })
    (fun _ _ _ _ _ hs => issubclass_outer (isn_tup rfl hs.1 hs.2)) ⟨htp, hq⟩
end
end Mine
end
section
open PySem PySem.W PyProof.Rows PySem.Calls PySem.Spec PyProof.V
set_option maxRecDepth 100000
namespace Mine
/-- what stood stays, but at these places -/
noncomputable def StaysBut (h : Heap) (as : List Addr) (h' : Heap) : Prop := ∀ b o, h.get? b = some o → b ∉ as → h'.get? b = some o

section
variable {prog : Program} {w : World} {A₀ A : Around} {s : Shared} {base h₀ : Heap} {outer : List Env} {L : Addr} {m mg mb : Str → Option Value} {env : Env} {news : List (Addr × Obj)} {K : Frag} {p : Program} {loose : List Str} {mean : ExcName → Option Value}
  {R : Result → Shared → Prop} {name qual : Str} {params : Arguments} {body : List Stmt} {scope : Scope} {dV kV doc pm cdv ct oc : Value} {an od : Option Addr} {osl : Array (Option Value)} {f : Addr} {args : Args} {binds : List (Str × Value)}

theorem leave_keeps {g : Heap} {as : List Addr} {v : Value} {s' : Shared} {h : Heap} (hg : ∀ b o, h.get? b = some o → b ∉ as → g.get? b = some o) (lv : ∀ v s', LeaveK h₀ L m g (fun r s' => StaysBut h as s'.heap → R r s') v s' → (StaysBut h as s'.heap → R (.ok (.ret v)) s'))
    (hl : LeaveK h₀ L m g (fun r s' => StaysBut h as s'.heap → R r s') v s') : R (.ok (.ret v)) s' := by
  obtain ⟨L', m', news', F', N', k⟩ := id hl
  exact lv v s' hl (fun b o e n => F'.keep b o (hg b o e n))

theorem frameG {E : Value → Shared → Prop} (B : Below A₀ base outer h₀) (F : Fr h₀ L s.heap m) (X₀ : K.In h₀) (N : News h₀ L s.heap news) (T : Top p loose mean mg mb h₀) (hA : A.frames = some (env :: outer)) (hf : env.frame = some L) (hke : env.scope.kind = .function)
    (hloc : ∀ y ∈ binds, scope.names.lookup y.1 = some .local)
    (h : ∀ g L' h₁, Fr h₀ L g m → Fr g L' h₁ (fun y => binds.reverse.lookup y) → News g L' h₁ news → Below A base (env :: outer) g → K.In g → Top p loose mean mg mb g → (∀ b o, s.heap.get? b = some o → b ∉ news.map (·.1) → g.get? b = some o) →
      wpAny (model prog w) (A.deeper (envOf qual scope L' f cdv)) (execs body (envOf qual scope L' f cdv))
        (fun fl s' => LeaveK h₀ L m g (fun r s' => StaysBut s.heap (news.map (·.1)) s'.heap → R r s') (match fl with | .ret v => v | _ => .none) s')
        (fun e s' => wpAny (model prog w) (A.deeper (envOf qual scope L' f cdv)) (leaving (envOf qual scope L' f cdv) e) (fun _ s'' => R (.error e) s'') (fun e' s'' => R (.error e') s'') s')
        { s with heap := h₁, toks := s.toks + binds.length })
    (hcell : ∀ x ∈ scope.names, x.2 ≠ .cell) (hk : scope.kind = .function) :
    wpAny (model prog w) A.in1 (newFunctionEnv scope mainGlobals [] binds (qual ++ ".<locals>.") (some f) cdv none builtinsNs) (fun env' s₂ => s₂.heap.NoLimit ∧ codeAny (model prog w) A (.func body env') R s₂) E s := by
  obtain ⟨FG, BG, st, lv⟩ := groundX (R := fun r s' => StaysBut s.heap (news.map (·.1)) s'.heap → R r s') B F N hA hf hke
  refine wpAny_newFunctionEnv hcell hloc (fun h₁ hns hsb => ⟨(T.nolimit.keeps F.keep).fresh _ hsb, codeAny_func ?_⟩) hk
  have hk₁ : ∀ b o, s.heap.get? b = some o → h₁.get? b = some o := fun b o e => hsb.extBut b o (Nat.ne_of_lt (Heap.lt_size e)) (Heap.get?_push_of_some _ e)
  show wpAny (model prog w) (A.deeper (envOf qual scope s.heap.objs.size f cdv)) (execs body (envOf qual scope s.heap.objs.size f cdv)) _ _ _
  refine wpAny_mono (h _ s.heap.objs.size h₁ FG ⟨hns, fun b o e => hk₁ b o (of_hideAll _ e), Nat.le_of_eq (hideAll_size _ _)⟩
    (fun p hp => ⟨hk₁ _ _ (N p hp).1, Nat.ne_of_lt (Heap.lt_size (N p hp).1), hideAll_none _ (List.mem_map_of_mem hp)⟩) BG (X₀.keeps st) (T.keeps st) (fun b o e n => hideAll_get _ e n)) (fun fl s' hl => ?_) fun _ _ y => y
  exact leave_keeps (fun b o e n => hideAll_get _ e n) lv hl

theorem plainG (B : Below A₀ base outer h₀) (F : Fr h₀ L s.heap m) (X₀ : K.In h₀) (N : News h₀ L s.heap news) (T : Top p loose mean mg mb h₀) (hA : A.frames = some (env :: outer)) (hf : env.frame = some L) (hke : env.scope.kind = .function)
    (ho : K.lookup f = some ⟨oc, od, .func (fnOf name qual params body scope dV kV doc pm an cdv ct), osl⟩) (hcd : codeIn K cdv qual = true) (hroom : A.depth < recursionLimit)
    (hbind : BindsTo s (fnOf name qual params body scope dV kV doc pm an cdv ct) args binds) (hloc : ∀ y ∈ binds, scope.names.lookup y.1 = some .local)
    (h : ∀ g L' h₁, Fr h₀ L g m → Fr g L' h₁ (fun y => binds.reverse.lookup y) → News g L' h₁ news → Below A base (env :: outer) g → K.In g → Top p loose mean mg mb g → (∀ b o, s.heap.get? b = some o → b ∉ news.map (·.1) → g.get? b = some o) →
      wpAny (model prog w) (A.deeper (envOf qual scope L' f cdv)) (execs body (envOf qual scope L' f cdv))
        (fun fl s' => LeaveK h₀ L m g (fun r s' => StaysBut s.heap (news.map (·.1)) s'.heap → R r s') (match fl with | .ret v => v | _ => .none) s')
        (fun e s' => wpAny (model prog w) (A.deeper (envOf qual scope L' f cdv)) (leaving (envOf qual scope L' f cdv) e) (fun _ s'' => R (.error e) s'') (fun e' s'' => R (.error e') s'') s')
        { s with heap := h₁, toks := s.toks + binds.length })
    (hco : scope.isCoroutine = false) (hgen : scope.isGenerator = false) (hk : scope.kind = .function)
    (hcell : ∀ x ∈ scope.names, x.2 ≠ .cell) : codeAny (model prog w) A (.call (.ref f) args) R s := by
  refine codeAny_call_function (fd := fnOf name qual params body scope dV kV doc pm an cdv ct) (body := body) hroom ((X₀.keeps F.keep) _ _ ho) rfl hco hgen rfl (codeRec_of (X₀.keeps F.keep) hcd) (hbind _ _ _ _ ?_)
  exact frameG B F X₀ N T hA hf hke hloc h hcell hk

theorem cellsG (B : Below A₀ base outer h₀) (F : Fr h₀ L s.heap m) (X₀ : K.In h₀) (N : News h₀ L s.heap news) (T : Top p loose mean mg mb h₀) (hA : A.frames = some (env :: outer)) (hf : env.frame = some L) (hke : env.scope.kind = .function)
    (ho : K.lookup f = some ⟨oc, od, .func (fnOf name qual params body scope dV kV doc pm an cdv ct), osl⟩) (hcd : codeIn K cdv qual = true) (hroom : A.depth < recursionLimit)
    (hbind : BindsTo s (fnOf name qual params body scope dV kV doc pm an cdv ct) args binds) (hkind : (binds.all fun y => scope.names.lookup y.1 == some .local || scope.names.lookup y.1 == some .cell) = true)
    (hnd : ((cellsFrom 0 scope.names []).map (·.1)).Nodup)
    (h : ∀ g L' h₁ tk cells, Fr h₀ L g m → Fr g L' h₁ (bindL (envOfC qual scope L' f cdv).kindOf binds fun _ => none) → News g L' h₁ (cells ++ news) →
      CellsAre (bindC (envOfC qual scope L' f cdv).kindOf binds fun _ => none) (cellsFrom (L' + 1) scope.names []) cells → Below A base (env :: outer) g → K.In g → Top p loose mean mg mb g → (∀ b o, s.heap.get? b = some o → b ∉ news.map (·.1) → g.get? b = some o) → (∀ p ∈ news, p.1 < L') →
      wpAny (model prog w) (A.deeper (envOfC qual scope L' f cdv)) (execs body (envOfC qual scope L' f cdv))
        (fun fl s' => LeaveK h₀ L m g (fun r s' => StaysBut s.heap (news.map (·.1)) s'.heap → R r s') (match fl with | .ret v => v | _ => .none) s')
        (fun e s' => wpAny (model prog w) (A.deeper (envOfC qual scope L' f cdv)) (leaving (envOfC qual scope L' f cdv) e) (fun _ s'' => R (.error e) s'') (fun e' s'' => R (.error e') s'') s')
        { s with heap := h₁, toks := tk })
    (hco : scope.isCoroutine = false) (hgen : scope.isGenerator = false) (hk : scope.kind = .function) : codeAny (model prog w) A (.call (.ref f) args) R s := by
  obtain ⟨FG, BG, st, lv⟩ := groundX (R := fun r s' => StaysBut s.heap (news.map (·.1)) s'.heap → R r s') B F N hA hf hke
  refine codeAny_call_function hroom ((X₀.keeps F.keep) _ _ ho) rfl hco hgen rfl (codeRec_of (X₀.keeps F.keep) hcd) (hbind _ _ _ _ ?_)
  refine wpAny_newFunctionEnv_cells hk (kindsX hkind _) fun env' he s' x => ?_
  subst he
  refine ⟨(T.nolimit.keeps F.keep).keeps x.toInCall.keep, codeAny_func ?_⟩
  obtain ⟨h₁, tk, rfl, _⟩ := x.done
  have hk₁ := x.toInCall.keep
  obtain ⟨cells, NC, Y⟩ := Cl.news (h₀ := s.heap) (Nat.le_refl _) fun n c hm => ⟨x.cell n c (lookup_of_mem_nodup (cellsFrom_names scope.names 0 (s.heap.objs.size + 1) [] [] rfl ▸ hnd) hm), x.above n c hm⟩
  refine wpAny_mono (h _ s.heap.objs.size h₁ tk cells FG ⟨x.toInCall.ns, fun b o e => hk₁ b o (of_hideAll _ e), Nat.le_of_eq (hideAll_size _ _)⟩ (fun p hp => ?_) Y BG (X₀.keeps st) (T.keeps st) (fun b o e n => hideAll_get _ e n) (fun p hp => Heap.lt_size (N p hp).1)) (fun fl s' hl => leave_keeps (fun b o e n => hideAll_get _ e n) lv hl) fun _ _ y => y
  rcases List.mem_append.mp hp with hp | hp
  · refine ⟨(NC p hp).1, (NC p hp).2.1, ?_⟩
    cases q : (hideAll s.heap (news.map (·.1))).get? p.1 with
    | none => rfl
    | some o => have := of_hideAll _ q; rw [(NC p hp).2.2] at this; cases this
  · exact ⟨hk₁ _ _ (N p hp).1, Nat.ne_of_lt (Heap.lt_size (N p hp).1), hideAll_none _ (List.mem_map_of_mem hp)⟩

theorem peek1_push {α : Type} {M : Model} {E : Value → Shared → Prop} {Q : α → Shared → Prop} {ob : Obj} {r : Addr → α} (X : K.In s.heap)
    (q : Q (r s.heap.objs.size) { s with heap := s.heap.push ob }) :
    ∀ (t : Sem α) (g : Addr → Option α), peek1 K ⟨M.prog, M.w.params⟩ t = some (ob, g) → (∀ D, g D = some (r D)) → wpAny M A t Q E s := by
  intro t
  induction t with
  | rule _ k ih => intro g e hg Γ p hΓ; exact ih () g e hg Γ p hΓ
  | point _ k ih => intro g e hg Γ p hΓ; exact ih () g e hg Γ p hΓ
  | ask k ih => intro g e hg Γ p hΓ; exact ih _ g e hg Γ p hΓ
  | load a _ k ih =>
    intro g e hg Γ p hΓ
    simp only [peek1] at e
    split at e
    · rename_i o' ho; exact ⟨o', X _ _ ho, ih o' g e hg Γ p hΓ⟩
    · cases e
  | alloc o' k _ =>
    intro g e hg
    have e : some (o', fun D => peek K ⟨M.prog, M.w.params⟩ (k D)) = some (ob, g) := e
    obtain ⟨e1, e2⟩ := Prod.mk.inj (Option.some.inj e)
    subst e1
    subst e2
    have X' : K.In (s.heap.push o') := X.keeps fun b x hb => Heap.get?_push_of_some _ hb
    show wpAny M A (alloc o' >>= k) Q E s
    exact wpAny_bind (wpAny_alloc ((Looks.of_peek (M := M) (h := s.heap.push o') X' (hg s.heap.objs.size)).here (s := { s with heap := s.heap.push o' }) q))
  | _ => intro g e; cases e

/-- a def with *rest or an empty **more: one object is laid ahead of the frame -/
theorem restG {ob : Obj} {g₁ : Addr → Option (List (Str × Value))} {binds : Addr → List (Str × Value)}
    (B : Below A₀ base outer h₀) (F : Fr h₀ L s.heap m) (X₀ : K.In h₀) (N : News h₀ L s.heap news) (T : Top p loose mean mg mb h₀) (hA : A.frames = some (env :: outer)) (hf : env.frame = some L) (hke : env.scope.kind = .function)
    (ho : K.lookup f = some ⟨oc, od, .func (fnOf name qual params body scope dV kV doc pm an cdv ct), osl⟩) (hcd : codeIn K cdv qual = true) (hroom : A.depth < recursionLimit)
    (hp : peek1 K ⟨prog, w.params⟩ (bindArgs (fnOf name qual params body scope dV kV doc pm an cdv ct) args) = some (ob, g₁)) (hfree : ob.isFreed = false)
    (hg : ∀ D, g₁ D = some (binds D)) (hloc : ∀ D, ∀ y ∈ binds D, scope.names.lookup y.1 = some .local)
    (h : ∀ D g L' h₁, (∀ p ∈ news, p.1 < D) → (D == sysModules) = false → Fr h₀ L g m → Fr g L' h₁ (fun y => (binds D).reverse.lookup y) → News g L' h₁ ((D, ob) :: news) → Below A base (env :: outer) g → K.In g → Top p loose mean mg mb g → (∀ b o, s.heap.get? b = some o → b ∉ news.map (·.1) → g.get? b = some o) →
      wpAny (model prog w) (A.deeper (envOf qual scope L' f cdv)) (execs body (envOf qual scope L' f cdv))
        (fun fl s' => LeaveK h₀ L m g (fun r s' => StaysBut s.heap (news.map (·.1)) s'.heap → R r s') (match fl with | .ret v => v | _ => .none) s')
        (fun e s' => wpAny (model prog w) (A.deeper (envOf qual scope L' f cdv)) (leaving (envOf qual scope L' f cdv) e) (fun _ s'' => R (.error e) s'') (fun e' s'' => R (.error e') s'') s')
        { s with heap := h₁, toks := s.toks + (binds D).length })
    (hco : scope.isCoroutine = false) (hgen : scope.isGenerator = false) (hk : scope.kind = .function)
    (hcell : ∀ x ∈ scope.names, x.2 ≠ .cell) : codeAny (model prog w) A (.call (.ref f) args) R s := by
  refine codeAny_call_function (fd := fnOf name qual params body scope dV kV doc pm an cdv ct) (body := body) hroom ((X₀.keeps F.keep) _ _ ho) rfl hco hgen rfl (codeRec_of (X₀.keeps F.keep) hcd) ?_
  refine peek1_push (X₀.keeps F.keep) ?_ _ g₁ hp hg
  have F' := F.push ob
  have N' := News.push F N ob hfree
  have up : ∀ b o, s.heap.get? b = some o → (s.heap.push ob).get? b = some o := fun b o e => Heap.get?_push_of_some _ e
  have ne : ∀ b o, s.heap.get? b = some o → b ∉ news.map (·.1) → b ∉ ((s.heap.objs.size, ob) :: news).map (·.1) := fun b o e n hm => by
    rcases List.mem_cons.mp hm with rfl | hm
    · exact Nat.lt_irrefl _ (Heap.lt_size e)
    · exact n hm
  refine frameG (s := { s with heap := s.heap.push ob }) B F' X₀ N' T hA hf hke (hloc _) (fun g L' h₁ FG FL NG BG XG TG hs => ?_) hcell hk
  refine wpAny_mono (h _ g L' h₁ (fun p hp => Heap.lt_size (N p hp).1) (F.notModules (modules_low T.nolimit)) FG FL NG BG XG TG (fun b o e n => hs b o (up b o e) (ne b o e n))) (fun fl s' hl => ?_) fun _ _ y => y
  obtain ⟨L'', m', news', F'', N'', k⟩ := hl
  exact ⟨L'', m', news', F'', N'', fun a b c => k a b (fun b o e n => c b o (up b o e) (ne b o e n))⟩
end
end Mine
end
section
open PySem PySem.W PyProof.Rows PySem.Calls PySem.Spec
set_option maxRecDepth 100000
namespace Mine
/-- the walk stops here -/
structure Stopped (P : Prop) : Prop where
  out : P
theorem stop_here {P : Prop} (h : Stopped P) : P := h.out
abbrev Led := List (Addr × Obj)

/-- a def of the text, called: what it hands back and what becomes of the ledger; all else stays -/
noncomputable def CallOk (K : Params → Frag) (p : Program) (w : World) (f : Addr) (args : List Value) (kw : List (Str × Value)) (pre : Heap → Prop) (n₀ : Led) (D U : Nat) (R : Heap → Value → Led → Prop) : Prop :=
  ∀ (mean : ExcName → Option Value) (mg mb : Str → Option Value) (dp un : Nat) (gd : Option (List Code)) (cn : Str) (cs : Scope) (a : Addr) (ccd : Value) (cl : List (Str × Addr)) (outer : List Env) (A₀ : Around) (base h₀ : Heap) (L : Addr) (m : Str → Option Value) (s : Shared) (Q E : Value → Shared → Prop),
    Below A₀ base outer h₀ → Fr h₀ L s.heap m → (K w.params).In h₀ → News h₀ L s.heap n₀ →
    Top p (looseW p [Str.ofString "tspecials", Str.ofString "_name_disallowed_re", Str.ofString "_value_disallowed_re", Str.ofString "_formatparam"]) mean mg mb h₀ → cs.kind = .function →
    dp + D < recursionLimit → un + U < cLine → pre s.heap →
    (∀ (v : Value) (n₁ : Led) (h' : Heap) (tk' : Nat), R h' v n₁ → Fr h₀ L h' m → News h₀ L h' n₁ → StaysBut s.heap (n₀.map (·.1)) h' → Q v { s with heap := h', toks := tk' }) →
      wpAny (model PySem.Challenge.rw_il0086_01.row.prog w) (ktrTop dp un gd cn cs L a ccd cl outer) (call (.ref f) args kw) Q E s

section
variable {K : Params → Frag} {p : Program} {w : World} {f : Addr} {args : List Value} {kw : List (Str × Value)} {pre : Heap → Prop} {n₀ : Led} {D U : Nat} {R : Heap → Value → Led → Prop}
  {mean : ExcName → Option Value} {mg mb : Str → Option Value} {dp un : Nat} {gd : Option (List Code)} {cn : Str} {cs : Scope} {a : Addr} {ccd : Value} {cl : List (Str × Addr)} {outer : List Env} {A₀ : Around} {base h₀ : Heap} {L : Addr} {m : Str → Option Value} {s : Shared} {Q E : Value → Shared → Prop}

theorem CallOk.use (C : CallOk K p w f args kw pre n₀ D U R)
    (B : Below A₀ base outer h₀) (F : Fr h₀ L s.heap m) (X : (K w.params).In h₀) (N : News h₀ L s.heap n₀)
    (T : Top p (looseW p [Str.ofString "tspecials", Str.ofString "_name_disallowed_re", Str.ofString "_value_disallowed_re", Str.ofString "_formatparam"]) mean mg mb h₀) (hk : cs.kind = .function)
    (hd : dp + D < recursionLimit) (hu : un + U < cLine) (hp : pre s.heap)
    (ret : ∀ (v : Value) (n₁ : Led) (h' : Heap) (tk' : Nat), R h' v n₁ → Fr h₀ L h' m → News h₀ L h' n₁ → StaysBut s.heap (n₀.map (·.1)) h' → Q v { s with heap := h', toks := tk' }) :
      wpAny (model PySem.Challenge.rw_il0086_01.row.prog w) (ktrTop dp un gd cn cs L a ccd cl outer) (call (.ref f) args kw) Q E s :=
  C _ _ _ _ _ _ _ _ _ _ _ _ _ _ _ _ _ _ _ _ B F X N T hk hd hu hp ret

/-- a value alone, up to its token -/
noncomputable abbrev Gives (g : Tok → Value) : Heap → Value → Led → Prop := fun _ v n => (∃ t, v = g t) ∧ n = []

theorem News.sub {h : Heap} {n n' : Led} (N : News h₀ L h n') (hs : ∀ p ∈ n, p ∈ n') : News h₀ L h n := fun p hp => N p (hs p hp)
theorem News.stays {h h' : Heap} {n : Led} {as : List Addr} (N : News h₀ L h n) (st : StaysBut h as h') (hn : ∀ p ∈ n, p.1 ∉ as) : News h₀ L h' n := fun p hp => ⟨st _ _ (N p hp).1 (hn p hp), (N p hp).2⟩
theorem News.app {h : Heap} {n n' : Led} (N : News h₀ L h n) (N' : News h₀ L h n') : News h₀ L h (n ++ n') := fun p hp => (List.mem_append.mp hp).elim (N p) (N' p)

/-- a def that changes nothing that stands -/
theorem CallOk.use1 {g : Tok → Value} {led : Led} (C : CallOk K p w f args kw pre [] D U (Gives g))
    (B : Below A₀ base outer h₀) (F : Fr h₀ L s.heap m) (X : (K w.params).In h₀) (N : News h₀ L s.heap led)
    (T : Top p (looseW p [Str.ofString "tspecials", Str.ofString "_name_disallowed_re", Str.ofString "_value_disallowed_re", Str.ofString "_formatparam"]) mean mg mb h₀) (hk : cs.kind = .function)
    (hd : dp + D < recursionLimit) (hu : un + U < cLine) (hp : pre s.heap)
    (ret : ∀ (t : Tok) (h' : Heap) (tk' : Nat), Fr h₀ L h' m → News h₀ L h' led → StaysBut s.heap [] h' → Q (g t) { s with heap := h', toks := tk' }) :
      wpAny (model PySem.Challenge.rw_il0086_01.row.prog w) (ktrTop dp un gd cn cs L a ccd cl outer) (call (.ref f) args kw) Q E s :=
  C.use B F X (News.sub N (fun _ h => nomatch h)) T hk hd hu hp (fun v n₁ h' tk' hR F' N' st => by
    obtain ⟨⟨t, rfl⟩, rfl⟩ := hR
    exact ret t h' tk' F' (News.stays N st (fun _ _ => List.not_mem_nil)) st)

/-- a def that turns some of the ledger -/
theorem CallOk.useM {v₀ : Value} {n₁ rest led : Led} (C : CallOk K p w f args kw pre n₀ D U (fun _ v n => v = v₀ ∧ n = n₁))
    (B : Below A₀ base outer h₀) (F : Fr h₀ L s.heap m) (X : (K w.params).In h₀) (N : News h₀ L s.heap led)
    (T : Top p (looseW p [Str.ofString "tspecials", Str.ofString "_name_disallowed_re", Str.ofString "_value_disallowed_re", Str.ofString "_formatparam"]) mean mg mb h₀) (hk : cs.kind = .function)
    (hd : dp + D < recursionLimit) (hu : un + U < cLine) (hp : pre s.heap) (h1 : ∀ p ∈ n₀, p ∈ led) (h2 : ∀ p ∈ rest, p ∈ led) (h3 : ∀ p ∈ rest, p.1 ∉ n₀.map (·.1))
    (ret : ∀ (h' : Heap) (tk' : Nat), Fr h₀ L h' m → News h₀ L h' (n₁ ++ rest) → StaysBut s.heap (n₀.map (·.1)) h' → Q v₀ { s with heap := h', toks := tk' }) :
      wpAny (model PySem.Challenge.rw_il0086_01.row.prog w) (ktrTop dp un gd cn cs L a ccd cl outer) (call (.ref f) args kw) Q E s :=
  C.use B F X (News.sub N h1) T hk hd hu hp (fun v n h' tk' hR F' N' st => by
    obtain ⟨rfl, rfl⟩ := hR
    exact ret h' tk' F' (News.app N' (News.stays (News.sub N h2) st h3)) st)
/-- one object of the ledger is turned, new ones are laid, the rest stays -/
theorem CallOk.useU {Y : Type} {val : Y → Value} {l : Addr} {o : Obj} {o' : Y → Obj} {new : Y → Led} {xs led : Led} {gl : Obj → Led}
    (C : CallOk K p w f args kw pre ((l, o) :: xs) D U (fun _ v n => ∃ y, v = val y ∧ n = new y ++ (l, o' y) :: xs))
    (B : Below A₀ base outer h₀) (F : Fr h₀ L s.heap m) (X : (K w.params).In h₀) (N : News h₀ L s.heap led)
    (T : Top p (looseW p [Str.ofString "tspecials", Str.ofString "_name_disallowed_re", Str.ofString "_value_disallowed_re", Str.ofString "_formatparam"]) mean mg mb h₀) (hk : cs.kind = .function)
    (hd : dp + D < recursionLimit) (hu : un + U < cLine) (hp : pre s.heap) (h1 : ∀ p ∈ xs, p ∈ led) (hU : UpdF l o led gl)
    (ret : ∀ (y : Y) (h' : Heap) (tk' : Nat), Fr h₀ L h' m → News h₀ L h' (new y ++ gl (o' y)) → StaysBut s.heap (l :: xs.map (·.1)) h' → Q (val y) { s with heap := h', toks := tk' }) :
      wpAny (model PySem.Challenge.rw_il0086_01.row.prog w) (ktrTop dp un gd cn cs L a ccd cl outer) (call (.ref f) args kw) Q E s := by
  obtain ⟨pl, pr, rfl, hg, a1, a2⟩ := hU.split
  have hm : (l, o) ∈ pl ++ (l, o) :: pr := List.mem_append.mpr (.inr (.head _))
  refine C.use B F X (News.sub N fun q hq => by
    rcases List.mem_cons.mp hq with rfl | hq
    · exact hm
    · exact h1 q hq) T hk hd hu hp (fun v n h' tk' hR F' N' st => ?_)
  obtain ⟨y, rfl, rfl⟩ := hR
  refine ret y h' tk' F' ?_ st
  rw [hg]
  have side : ∀ q ∈ pl ++ (l, o) :: pr, q.1 ≠ l → h'.get? q.1 = some q.2 ∧ q.1 ≠ L ∧ h₀.get? q.1 = none := fun q hq hne => by
    refine ⟨?_, (N q hq).2⟩
    by_cases hx : q.1 ∈ xs.map (·.1)
    · obtain ⟨z, hz, e⟩ := List.mem_map.mp hx
      have e1 := (N q hq).1
      have e2 := (N z (h1 z hz)).1
      rw [e, e1] at e2
      have e3 : q = z := Prod.ext e.symm (Option.some.inj e2)
      rw [e3]
      exact (N' z (List.mem_append.mpr (.inr (.tail _ hz)))).1
    · exact st _ _ (N q hq).1 (fun h => by
        rcases List.mem_cons.mp h with h | h
        · exact hne h
        · exact hx h)
  intro q hq
  rcases List.mem_append.mp hq with hq | hq
  · exact N' q (List.mem_append.mpr (.inl hq))
  · rcases List.mem_append.mp hq with hq | hq
    · exact side q (List.mem_append.mpr (.inl hq)) (a1 q hq)
    · rcases List.mem_cons.mp hq with rfl | hq
      · exact N' _ (List.mem_append.mpr (.inr (.head _)))
      · exact side q (List.mem_append.mpr (.inr (.tail _ hq))) (a2 q hq)
theorem CallOk.useU0 {v₀ : Value} {l : Addr} {o o' : Obj} {xs led : Led} {gl : Obj → Led}
    (C : CallOk K p w f args kw pre ((l, o) :: xs) D U (fun _ v n => v = v₀ ∧ n = (l, o') :: xs))
    (B : Below A₀ base outer h₀) (F : Fr h₀ L s.heap m) (X : (K w.params).In h₀) (N : News h₀ L s.heap led)
    (T : Top p (looseW p [Str.ofString "tspecials", Str.ofString "_name_disallowed_re", Str.ofString "_value_disallowed_re", Str.ofString "_formatparam"]) mean mg mb h₀) (hk : cs.kind = .function)
    (hd : dp + D < recursionLimit) (hu : un + U < cLine) (hp : pre s.heap) (h1 : ∀ p ∈ xs, p ∈ led) (hU : UpdF l o led gl)
    (ret : ∀ (h' : Heap) (tk' : Nat), Fr h₀ L h' m → News h₀ L h' (gl o') → StaysBut s.heap (l :: xs.map (·.1)) h' → Q v₀ { s with heap := h', toks := tk' }) :
      wpAny (model PySem.Challenge.rw_il0086_01.row.prog w) (ktrTop dp un gd cn cs L a ccd cl outer) (call (.ref f) args kw) Q E s :=
  CallOk.useU (Y := Unit) (val := fun _ => v₀) (o' := fun _ => o') (new := fun _ => []) (fun mean mg mb dp un gd cn cs a ccd cl outer A₀ base h₀ L m s Q E b c d e f g h i j k => C mean mg mb dp un gd cn cs a ccd cl outer A₀ base h₀ L m s Q E b c d e f g h i j (fun v n h' tk' hR => k v n h' tk' ⟨(), hR.1, hR.2⟩))
    B F X N T hk hd hu hp h1 hU (fun _ => ret)
theorem News.ne {h : Heap} {led : Led} {a b : Addr} {o o' : Obj} (N : News h₀ L h led) (ha : (a, o) ∈ led) (hb : (b, o') ∈ led) (hc : o.cls ≠ o'.cls) : a ≠ b := fun e => by
  have e1 := (N _ ha).1
  have e2 := (N _ hb).1
  dsimp only at e1 e2
  rw [← e, e1] at e2
  exact hc (congrArg Obj.cls (Option.some.inj e2))
theorem News.off {h : Heap} {led tail : Led} {a : Addr} {o : Obj} (N : News h₀ L h led) (ha : (a, o) ∈ led) (ht : ∀ p ∈ tail, p ∈ led) (hc : ∀ p ∈ tail, p.2.cls ≠ o.cls) : ∀ p ∈ tail, p.1 ≠ a := fun p hp => News.ne (o := p.2) N (ht p hp) ha (hc p hp)
end

noncomputable def GetSepSpec (K : Params → Frag) (p : Program) (w : World) : Prop := ∀ (x : Str) (t : Tok), CallOk K p w 308 [.str x t] [] (fun _ => True) [] 3 20 (Gives (fun t => .str (Str.ofString "/") t))
noncomputable def FspathSpec (K : Params → Frag) (p : Program) (w : World) : Prop := ∀ (x : Str) (t : Tok), CallOk K p w 294 [.str x t] [] (fun _ => True) [] 3 20 (Gives (fun _ => .str x t))
end Mine
end
section
open PySem PySem.W PyProof.Rows PySem.Calls PySem.Spec
set_option maxRecDepth 100000
namespace Mine
noncomputable abbrev riObj (x left step : Int) : Obj := { cls := .type "range_iterator", dict := none, data := .fields #[rawInt x, rawInt left, rawInt step], slots := #[] }
theorem sub_ri_reversed : isSubtype (.type "range_iterator") (.type "reversed") = pure false := by rw [isSubtype_type]; kernel_rfl
section
variable {prog : Program} {w : World} {A : Around} {E : Value → Shared → Prop} {s : Shared}
theorem call_range_reversed {r : Addr} {a b c : Int} {t u v : Tok} {Q : Value → Shared → Prop} (hr : IsRange s.heap r a b c t u v)
    (hs : (Builtin.Range.rangeFitsLong a && Builtin.Range.rangeFitsLong b && Builtin.Range.rangeFitsLong c && Builtin.Range.rangeFitsLong (-c) && Builtin.Range.rangeFitsLong (a - c) && Builtin.Range.rangeFitsLong (Builtin.Range.rangeSize a b c)) = true)
    (h : Q (.ref s.heap.objs.size) { s with heap := s.heap.push (riObj (a + (Builtin.Range.rangeSize a b c - 1) * c) (Builtin.Range.rangeSize a b c) (-c)) }) : wpAny (model prog w) A (call (.builtin "range.__reversed__") [.ref r]) Q E s := by
  have hT : s.TypeIs (.ref r) "range" := ⟨_, hr, rfl⟩
  refine wpAny_call_entry F.slot_range_reversed hT F.entry_range_reversed ?_ (F.args_range_reversed_1 _)
  unfold Builtin.«range.__reversed__»
  refine wpAny_bind (wpAny_of_eq (a := Value.ref r) rfl ?_)
  refine wpAny_bind (m := Builtin.Range.rangeFields (.ref r)) ?_
  unfold Builtin.Range.rangeFields
  refine wpAny_bind (wpAny_field hr rfl (x := .int a t) rfl ?_)
  refine wpAny_bind (wpAny_of_eq (a := some a) rfl ?_)
  refine wpAny_bind (wpAny_field hr rfl (x := .int b u) rfl ?_)
  refine wpAny_bind (wpAny_of_eq (a := some b) rfl ?_)
  refine wpAny_bind (wpAny_field hr rfl (x := .int c v) rfl ?_)
  refine wpAny_bind (wpAny_of_eq (a := some c) rfl ?_)
  refine wpAny_pure ?_
  dsimp only
  rw [hs]
  simp only [Bool.not_true, Bool.false_eq_true, if_false, if_true]
  exact wpAny_bind (wpAny_newObj_type (wpAny_pure ⟨_, rfl, h⟩))

theorem code_reversed_range {r : Addr} {a b c : Int} {t u v : Tok} {Q₁ : Value → Shared → Prop} (hr : IsRange s.heap r a b c t u v)
    (hs : (Builtin.Range.rangeFitsLong a && Builtin.Range.rangeFitsLong b && Builtin.Range.rangeFitsLong c && Builtin.Range.rangeFitsLong (-c) && Builtin.Range.rangeFitsLong (a - c) && Builtin.Range.rangeFitsLong (Builtin.Range.rangeSize a b c)) = true)
    (h : Q₁ (.ref s.heap.objs.size) { s with heap := s.heap.push (riObj (a + (Builtin.Range.rangeSize a b c - 1) * c) (Builtin.Range.rangeSize a b c) (-c)) }) :
    codeAny (model prog w) A (.call (.builtin "reversed.__new__") ⟨[.type "reversed", .ref r], []⟩) (wants Q₁ E) s := by
  have hT : s.TypeIs (.ref r) "range" := ⟨_, hr, rfl⟩
  refine codeAny_of_tree ?_
  show wpAny _ A.in1 (do checkBuiltinCall "reversed.__new__" ⟨[.type "reversed", .ref r], []⟩; again (.builtin "reversed.__new__" ⟨[.type "reversed", .ref r], []⟩)) _ _ s
  refine wpAny_bind (wpAny_of_eq (F.newCall_reversed_1 _) (wpAny_pure ⟨plainId_quiet F.plain_reversed_new _, codeAny_builtin F.entry_reversed_new ?_⟩))
  rw [Around.under_plainId F.plain_reversed_new _]
  unfold Builtin.«reversed.__new__»
  refine wpAny_bind (wpAny_of_eq (newClass_reversed _) ?_)
  try dsimp only
  refine wpAny_bind (wpAny_of_eq (a := ()) (by first | rfl | kernel_rfl) ?_)
  refine wpAny_bind (wpAny_of_eq (a := ()) (by first | rfl | kernel_rfl) ?_)
  try dsimp only
  refine wpAny_bind (wpAny_specialOf hT F.slot_range_reversed.lookup ?_)
  try dsimp only
  refine wpAny_bind (wpAny_of_eq (F.slot_range_reversed.bind _) ?_)
  try dsimp only
  first
  | rw [if_neg (show ¬ ((Value.builtin "range.__reversed__" == Value.none) = true) from Bool.false_ne_true)]
  | (show wpAny _ _ (if (Value.builtin "range.__reversed__" == Value.none) = true then _ else _) _ _ _; rw [if_neg (show ¬ ((Value.builtin "range.__reversed__" == Value.none) = true) from Bool.false_ne_true)])
  refine wpAny_bind (wpAny_rule ?_)
  refine wpAny_bind (m := runValue (.call (.builtin "range.__reversed__") ⟨[.ref r], []⟩)) (show wpAny _ _ (call (.builtin "range.__reversed__") [.ref r]) _ _ _ from call_range_reversed hr hs ?_)
  first
  | exact wpAny_pure h
  | exact wpAny_bind (wpAny_pure (wpAny_pure h))

theorem call_reversed_range {r : Addr} {a b c : Int} {t u v : Tok} {Q : Value → Shared → Prop} (hr : IsRange s.heap r a b c t u v)
    (hs : (Builtin.Range.rangeFitsLong a && Builtin.Range.rangeFitsLong b && Builtin.Range.rangeFitsLong c && Builtin.Range.rangeFitsLong (-c) && Builtin.Range.rangeFitsLong (a - c) && Builtin.Range.rangeFitsLong (Builtin.Range.rangeSize a b c)) = true)
    (h : Q (.ref s.heap.objs.size) { s with heap := s.heap.push (riObj (a + (Builtin.Range.rangeSize a b c - 1) * c) (Builtin.Range.rangeSize a b c) (-c)) }) : wpAny (model prog w) A (call (.type "reversed") [.ref r]) Q E s := by
  refine callType_other (U := "range_iterator") (Q₁ := fun obj s₁ => obj = .ref s.heap.objs.size ∧ s₁ = { s with heap := s.heap.push (riObj (a + (Builtin.Range.rangeSize a b c - 1) * c) (Builtin.Range.rangeSize a b c) (-c)) }) (by decide +kernel) F.create_reversed ⟨_, _, F.mro_reversed⟩ F.made_reversed sub_ri_reversed (F.typeCall_reversed_1 _) (code_reversed_range hr hs ⟨rfl, rfl⟩) ?_
  rintro obj s₁ ⟨rfl, rfl⟩
  exact ⟨⟨_, Heap.get?_push_size _ rfl, rfl⟩, h⟩
end
section
variable {prog : Program} {w : World} {A : Around} {E : Value → Shared → Prop} {s : Shared} {env : Env} {g : Heap} {target : Expr} {body : List Stmt} {Q : Flow → Shared → Prop} {m : Str → Option Value} {led : Led}

/-- what a turn of a for-loop must leave -/
noncomputable def TurnEnd (g : Heap) (L : Addr) (s : Shared) (I : Addr) (oI : Obj) (J : (Str → Option Value) → Led → Prop) (s₃ : Shared) : Prop :=
  Ex4 fun m' led' h' tk' => And4 (s₃ = { s with heap := h', toks := tk' }) (Fr g L h' m') (News g L h' ((I, oI) :: led')) (J m' led')
/-- the rest of a for-loop, from its iterator on -/
noncomputable def ForAt (prog : Program) (w : World) (A : Around) (E : Value → Shared → Prop) (env : Env) (target : Expr) (body : List Stmt) (Q : Flow → Shared → Prop) (it : Value) (s₂ : Shared) : Prop :=
  codeAny (model prog w) A (.forLoop target it body [] env) (fun r s' => match r with | .ok f => Q f s' | .error e => cameBackBy (model prog w) A env E e s') s₂

theorem for_stop {iter : Expr} {pos : Pos} (h : wpAny (model prog w) A (eval iter env) (fun x s₁ => Stopped (wpAny (model prog w) A (pyIter x) (fun it s₂ => ForAt prog w A E env target body Q it s₂) E s₁)) E s)
    (hs : ∀ x, foldedSetIterable iter env x = pure x := by intro _; rfl) : wpAny (model prog w) A (exec (.For target iter body [] pos) env) Q E s :=
  wpAny_For (wpAny_mono h (fun _ _ h₁ => h₁.out) fun _ _ e => e) hs

theorem for_core {I : Addr} {fp : List Addr} {n : Nat} {Pv : Nat → Value → Prop} {St : Nat → Heap → Prop} {S : Led → Prop} {isIt : Obj → Prop}
    (W : Walks prog w A I fp [I] n Pv St) (hIo : ∀ i h, St i h → ∃ o, h.get? I = some o ∧ isIt o)
    (hSt : ∀ i h h' o nw, St i h → h.get? I = some o → h'.get? I = some o → (∀ b o, g.get? b = some o → h'.get? b = some o) → News g env.locals h' nw → S nw → St i h')
    (hst : St 0 s.heap) (F : Fr g env.locals s.heap m) (N : News g env.locals s.heap led) (hIL : env.locals ≠ I) (hI₀ : g.get? I = none)
    (hgo : ∀ i (s' : Shared) v (Q' : Unit → Shared → Prop), St i s'.heap → Q' () s' → wpAny (model prog w) A (letOwnedTupleGo target (.ref I) v) Q' (fun _ _ => False) s')
    (K : Led) (hK : ∀ p ∈ K, p.1 ≠ I) (J : Nat → (Str → Option Value) → Led → Prop) (P : Flow → Shared → Prop) (hJ : ∀ i m led, J i m led → S led ∧ ∀ p ∈ led, ¬ isIt p.2 ∨ p ∈ K) (h0 : J 0 m led)
    (turn : ∀ i v m led oI h tk, i < n → Pv i v → J i m led → Fr g env.locals h m → News g env.locals h ((I, oI) :: led) → (∀ p ∈ led, @Ne Nat p.1 I) →
      wpAny (model prog w) A (assign target env v) (fun _ s₂ => wpAny (model prog w) A (execs body env) (fun f s₃ => match f with
        | .next | .cont => Stopped (TurnEnd g env.locals s I oI (J (i + 1)) s₃)
        | .brk => Stopped (P .next s₃)
        | .ret v => Stopped (P (.ret v) s₃)) (fun _ _ => False) s₂) (fun _ _ => False) { s with heap := h, toks := tk })
    (rest : ∀ m led h tk, J n m led → Fr g env.locals h m → News g env.locals h led → Q .next { s with heap := h, toks := tk })
    (other : ∀ f st, P f st → Q f st) : ForAt prog w A E env target body Q (.ref I) s := by
  have ofF : ∀ {α : Type} {t : Sem α} {Q' : α → Shared → Prop} {E' : Value → Shared → Prop} {s' : Shared}, wpAny (model prog w) A t Q' (fun _ _ => False) s' → wpAny (model prog w) A t Q' E' s' := fun h => wpAny_mono h (fun _ _ x => x) fun _ _ x => x.elim
  refine codeAny_forLoop_any
    (fun k s' => Ex5 fun i m' led' h' tk => And7 (s' = { s with heap := h', toks := tk }) (St i h') (Fr g env.locals h' m') (News g env.locals h' led') (J i m' led') (i ≤ n) (k = n + 1 - i)) ?_ (n + 1)
    ⟨0, m, led, s.heap, s.toks, rfl, hst, F, N, h0, Nat.zero_le _, rfl⟩
  rintro k s' ⟨i, m', led', h', tk, rfl, hst', F', N', hJ', hi, rfl⟩
  have offc : ∀ i m led h, J i m led → St i h → News g env.locals h led → ∀ p ∈ led, p.1 ≠ I := fun i m led h j st N p hp e => by
    rcases (hJ _ _ _ j).2 p hp with hc | hk
    · obtain ⟨o, e1, e2⟩ := hIo _ _ st
      have := (N p hp).1
      rw [e, e1] at this
      exact hc (Option.some.inj this ▸ e2)
    · exact hK p hk e
  by_cases hlt : i < n
  · refine W.item i _ _ _ hlt hst' fun v h₁ tk₁ hP hst₁ hk₁ => ?_
    obtain ⟨oI, heI, hcI⟩ := hIo _ _ hst₁
    have F₁ := LCg.fr_but F' hk₁ hIL hI₀
    have N₁ := LCg.news_but N' hk₁ (offc _ _ _ _ hJ' hst' N')
    have N₂ : News g env.locals h₁ ((I, oI) :: led') := fun p hp => by
      rcases List.mem_cons.mp hp with rfl | hp
      · exact ⟨heI, Ne.symm hIL, hI₀⟩
      · exact N₁ p hp
    refine ofF (hgo (i + 1) _ v _ hst₁ ?_)
    refine ofF (wpAny_mono (turn i v m' led' oI h₁ tk₁ hlt hP hJ' F₁ N₂ (offc _ _ _ _ hJ' hst' N')) (fun _ s₂ h₂ => ofF (wpAny_mono h₂ (fun f s₃ h₃ => ?_) fun _ _ e => e)) fun _ _ e => e)
    have fin : Stopped (TurnEnd g env.locals s I oI (J (i + 1)) s₃) → ∃ m_1, m_1 < n + 1 - i ∧ Ex5 fun i m' led' h' tk => And7 (s₃ = { s with heap := h', toks := tk }) (St i h') (Fr g env.locals h' m') (News g env.locals h' led') (J i m' led') (i ≤ n) (m_1 = n + 1 - i) := by
      rintro ⟨m₂, led₂, h₂, tk₂, rfl, F₂, N₂, J₂⟩
      have N₂' : News g env.locals h₂ led₂ := fun p hp => N₂ p (List.mem_cons_of_mem _ hp)
      exact ⟨n + 1 - (i + 1), by lia, i + 1, m₂, led₂, h₂, tk₂, rfl, hSt _ _ _ _ _ hst₁ heI (N₂ (I, oI) List.mem_cons_self).1 F₂.keep N₂' (hJ _ _ _ J₂).1, F₂, N₂', J₂, hlt, rfl⟩
    cases f with
    | ret v => exact other _ _ h₃.out
    | brk => exact other _ _ h₃.out
    | cont => exact fin h₃
    | next => exact fin h₃
  · have hin : i = n := by lia
    subst hin
    refine W.done _ _ _ hst' fun h₁ tk₁ hk₁ => wpAny_execs_nil ?_
    exact rest m' led' h₁ tk₁ hJ' (LCg.fr_but F' hk₁ hIL hI₀) (LCg.news_but N' hk₁ (offc _ _ _ _ hJ' hst' N'))

theorem ri_st {I L : Addr} {a c : Int} {n : Nat} : ∀ i (h h' : Heap) (o : Obj) (nw : Led), IsRangeIter h I (a + (i : Nat) * c) ((n : Int) - (i : Nat)) c → h.get? I = some o → h'.get? I = some o → (∀ b o, g.get? b = some o → h'.get? b = some o) → News g L h' nw → True → IsRangeIter h' I (a + (i : Nat) * c) ((n : Int) - (i : Nat)) c :=
  fun i h h' o nw st e e' _ _ _ => by
    have st' : h.get? I = some _ := st
    show h'.get? I = some _
    rw [e', ← e]; exact st'

/-- for k in reversed(range(..)), and any range's iterator that stands at the ledger's head -/
theorem for_riter {I : Addr} {a c l : Int} {n : Nat} {L : Addr} (hL : env.locals = L) (hh : A.handled = none) (hn : l = (n : Int)) (F : Fr g L s.heap m) (N : News g L s.heap ((I, riObj a l c) :: led))
    (J : Nat → (Str → Option Value) → Led → Prop) (P : Flow → Shared → Prop) (hJ : ∀ i m led, J i m led → ∀ p ∈ led, p.2.cls ≠ .type "range_iterator") (h0 : J 0 m led)
    (turn : ∀ i t m led oI h tk, i < n → J i m led → Fr g L h m → News g L h ((I, oI) :: led) → (∀ p ∈ led, @Ne Nat p.1 I) →
      wpAny (model prog w) A (assign target env (.int (a + (i : Nat) * c) t)) (fun _ s₂ => wpAny (model prog w) A (execs body env) (fun f s₃ => match f with
        | .next | .cont => Stopped (TurnEnd g L s I oI (J (i + 1)) s₃)
        | .brk => Stopped (P .next s₃)
        | .ret v => Stopped (P (.ret v) s₃)) (fun _ _ => False) s₂) (fun _ _ => False) { s with heap := h, toks := tk })
    (rest : ∀ m led h tk, J n m led → Fr g L h m → News g L h led → Q .next { s with heap := h, toks := tk })
    (other : ∀ f st, P f st → Q f st) (ht : ∀ v, letOwnedTupleGo target (.ref I) v = pure () := by intro _; rfl) :
    wpAny (model prog w) A (pyIter (.ref I)) (fun it s₂ => ForAt prog w A E env target body Q it s₂) E s   := by
  subst hL
  have hI := N _ List.mem_cons_self
  have hit : IsRangeIter s.heap I a l c := hI.1
  subst hn
  refine wpAny_pyIter_rangeiter hit ?_
  refine for_core (Walks.range hh I a c n) (isIt := fun o => o.cls = .type "range_iterator" ∧ ∃ vs, o.data = .fields vs) (S := fun _ => True) (fun i h st => ⟨_, st, rfl, _, rfl⟩) ri_st (by simpa using hit) F (fun p hp => N p (List.mem_cons_of_mem _ hp)) (Ne.symm hI.2.1) hI.2.2
    (fun _ _ v _ _ q => wpAny_of_eq (ht v) q) [] (fun _ h => nomatch h) J P (fun i m led j => ⟨trivial, fun p hp => .inl (fun x => hJ i m led j p hp x.1)⟩) h0 (fun i v m led oI h tk hi hP j F N off => ?_) rest other
  obtain ⟨t, rfl⟩ := hP
  exact turn i t m led oI h tk hi j F N off

/-- for k in range(a, b, c) -/
theorem for_range {r : Addr} {a b c : Int} {t u v : Tok} {n : Nat} {L : Addr} (hL : env.locals = L) (hh : A.handled = none) (hr : IsRange s.heap r a b c t u v) (hsm : Builtin.Range.small a b c = true) (hn : Builtin.Range.rangeSize a b c = (n : Int))
    (F : Fr g L s.heap m) (N : News g L s.heap led)
    (J : Nat → (Str → Option Value) → Led → Prop) (P : Flow → Shared → Prop) (hJ : ∀ i m led, J i m led → ∀ p ∈ led, p.2.cls ≠ .type "range_iterator") (h0 : J 0 m led)
    (turn : ∀ I i t m led oI h tk, i < n → J i m led → Fr g L h m → News g L h ((I, oI) :: led) → (∀ p ∈ led, @Ne Nat p.1 I) →
      wpAny (model prog w) A (assign target env (.int (a + (i : Nat) * c) t)) (fun _ s₂ => wpAny (model prog w) A (execs body env) (fun f s₃ => match f with
        | .next | .cont => Stopped (TurnEnd g L s I oI (J (i + 1)) s₃)
        | .brk => Stopped (P .next s₃)
        | .ret v => Stopped (P (.ret v) s₃)) (fun _ _ => False) s₂) (fun _ _ => False) { s with heap := h, toks := tk })
    (rest : ∀ m led h tk, J n m led → Fr g L h m → News g L h led → Q .next { s with heap := h, toks := tk })
    (other : ∀ f st, P f st → Q f st) (ht : ∀ I v, letOwnedTupleGo target (.ref I) v = pure () := by intro _ _; rfl) :
    wpAny (model prog w) A (pyIter (.ref r)) (fun it s₂ => ForAt prog w A E env target body Q it s₂) E s   := by
  subst hL
  refine wpAny_pyIter_range hr hsm ?_
  have up : ∀ b' o, s.heap.get? b' = some o → (s.heap.push { cls := .type "range_iterator", data := .fields #[rawInt a, rawInt (Builtin.Range.rangeSize a b c), rawInt c] }).get? b' = some o := fun _ _ e => Heap.get?_push_of_some _ e
  refine for_core (Walks.range hh s.heap.objs.size a c n) (isIt := fun o => o.cls = .type "range_iterator" ∧ ∃ vs, o.data = .fields vs) (S := fun _ => True) (fun i h st => ⟨_, st, rfl, _, rfl⟩) ri_st (by rw [hn]; simpa using Heap.get?_push_size _ rfl) (F.keeps up) (N.grown up) (Nat.ne_of_lt F.ns.lt) (next_is_new F)
    (fun _ _ v _ _ q => wpAny_of_eq (ht _ v) q) [] (fun _ h => nomatch h) J P (fun i m led j => ⟨trivial, fun p hp => .inl (fun x => hJ i m led j p hp x.1)⟩) h0 (fun i v m led oI h tk hi hP j F N off => ?_) rest other
  obtain ⟨t, rfl⟩ := hP
  exact turn _ i t m led oI h tk hi j F N off

/-- the same, where another range's iterator stands -/
theorem for_rangeK {r : Addr} {a b c : Int} {t u v : Tok} {n : Nat} {L : Addr} (hL : env.locals = L) (hh : A.handled = none) (hr : IsRange s.heap r a b c t u v) (hsm : Builtin.Range.small a b c = true) (hn : Builtin.Range.rangeSize a b c = (n : Int))
    (F : Fr g L s.heap m) (N : News g L s.heap led)
    (J : Nat → (Str → Option Value) → Led → Prop) (P : Flow → Shared → Prop) (K : Led) (hK : ∀ p ∈ K, p ∈ led) (hJ : ∀ i m led, J i m led → ∀ p ∈ led, (p.2.cls ≠ .type "range_iterator" ∨ ¬ ∃ vs, p.2.data = .fields vs) ∨ p ∈ K) (h0 : J 0 m led)
    (turn : ∀ I i t m led oI h tk, i < n → J i m led → Fr g L h m → News g L h ((I, oI) :: led) → (∀ p ∈ led, @Ne Nat p.1 I) →
      wpAny (model prog w) A (assign target env (.int (a + (i : Nat) * c) t)) (fun _ s₂ => wpAny (model prog w) A (execs body env) (fun f s₃ => match f with
        | .next | .cont => Stopped (TurnEnd g L s I oI (J (i + 1)) s₃)
        | .brk => Stopped (P .next s₃)
        | .ret v => Stopped (P (.ret v) s₃)) (fun _ _ => False) s₂) (fun _ _ => False) { s with heap := h, toks := tk })
    (rest : ∀ m led h tk, J n m led → Fr g L h m → News g L h led → Q .next { s with heap := h, toks := tk })
    (other : ∀ f st, P f st → Q f st) (ht : ∀ I v, letOwnedTupleGo target (.ref I) v = pure () := by intro _ _; rfl) :
    wpAny (model prog w) A (pyIter (.ref r)) (fun it s₂ => ForAt prog w A E env target body Q it s₂) E s   := by
  subst hL
  refine wpAny_pyIter_range hr hsm ?_
  have up : ∀ b' o, s.heap.get? b' = some o → (s.heap.push { cls := .type "range_iterator", data := .fields #[rawInt a, rawInt (Builtin.Range.rangeSize a b c), rawInt c] }).get? b' = some o := fun _ _ e => Heap.get?_push_of_some _ e
  refine for_core (Walks.range hh s.heap.objs.size a c n) (isIt := fun o => o.cls = .type "range_iterator" ∧ ∃ vs, o.data = .fields vs) (S := fun _ => True) (fun i h st => ⟨_, st, rfl, _, rfl⟩) ri_st (by rw [hn]; simpa using Heap.get?_push_size _ rfl) (F.keeps up) (N.grown up) (Nat.ne_of_lt F.ns.lt) (next_is_new F)
    (fun _ _ v _ _ q => wpAny_of_eq (ht _ v) q) K (fun p hp => Nat.ne_of_lt (Heap.lt_size (N p (hK p hp)).1)) J P (fun i m led j => ⟨trivial, fun p hp => (hJ i m led j p hp).imp (fun hc x => hc.elim (fun h => h x.1) (fun h => h x.2)) id⟩) h0 (fun i v m led oI h tk hi hP j F N off => ?_) rest other
  obtain ⟨t, rfl⟩ := hP
  exact turn _ i t m led oI h tk hi j F N off

/-- for x in a list that stands in the ledger or below, and is left alone -/
theorem for_list {ax : Addr} {its : List Value} {L : Addr} (hL : env.locals = L) (hh : A.handled = none) (F : Fr g L s.heap m) (N : News g L s.heap led)
    (J : Nat → (Str → Option Value) → Led → Prop) (P : Flow → Shared → Prop) (hJ : ∀ i m led, J i m led → LCg.SrcAt g ax its.toArray led ∧ ∀ p ∈ led, p.2.cls ≠ .type "list_iterator") (h0 : J 0 m led)
    (turn : ∀ I i v m led oI h tk, i < its.length → its[i]? = some v → J i m led → Fr g L h m → News g L h ((I, oI) :: led) → (∀ p ∈ led, @Ne Nat p.1 I) →
      wpAny (model prog w) A (assign target env v) (fun _ s₂ => wpAny (model prog w) A (execs body env) (fun f s₃ => match f with
        | .next | .cont => Stopped (TurnEnd g L s I oI (J (i + 1)) s₃)
        | .brk => Stopped (P .next s₃)
        | .ret v => Stopped (P (.ret v) s₃)) (fun _ _ => False) s₂) (fun _ _ => False) { s with heap := h, toks := tk })
    (rest : ∀ m led h tk, J its.length m led → Fr g L h m → News g L h led → Q .next { s with heap := h, toks := tk })
    (other : ∀ f st, P f st → Q f st)
    (hgo : ∀ I i (s' : Shared) v (Q' : Unit → Shared → Prop), s'.heap.IsListIter I ax i → Q' () s' → wpAny (model prog w) A (letOwnedTupleGo target (.ref I) v) Q' (fun _ _ => False) s') :
    wpAny (model prog w) A (pyIter (.ref ax)) (fun it s₂ => ForAt prog w A E env target body Q it s₂) E s   := by
  subst hL
  have S0 := (hJ _ _ _ h0).1
  have hl := S0.list F.keep N
  have hlt : ax < s.heap.objs.size := by obtain ⟨_, e, _⟩ := hl; exact Heap.lt_size e
  refine wpAny_pyIter_list hl ?_
  have up : ∀ b o, s.heap.get? b = some o → (s.heap.push { cls := .type "list_iterator", data := .fields #[.ref ax, .int 0 0] }).get? b = some o := fun b o e => Heap.get?_push_of_some _ e
  have hsz : its.toArray.size = its.length := List.size_toArray
  have W := Walks.list (prog := prog) (w := w) hh s.heap.objs.size ax (Nat.ne_of_lt hlt) its.toArray
  rw [hsz] at W
  refine for_core W (isIt := fun o => o.cls = .type "list_iterator") (S := fun nw => LCg.SrcAt g ax its.toArray nw) (fun i h st => by obtain ⟨o, e, c, _⟩ := st.1; exact ⟨o, e, c⟩) LCg.list_st ⟨⟨_, Heap.get?_push_size _ rfl, rfl, rfl⟩, hl.push _⟩ (F.keeps up) (N.grown up) (Nat.ne_of_lt F.ns.lt) (next_is_new F)
    (fun i s' v Q' st q => hgo _ i s' v Q' st.1 q) [] (fun _ h => nomatch h) J P (fun i m led j => ⟨(hJ i m led j).1, fun p hp => .inl ((hJ i m led j).2 p hp)⟩) h0 (fun i v m led oI h tk hi hP j F N off => ?_) rest other
  exact turn _ i v m led oI h tk hi (by simpa using hP) j F N off
theorem go_name {x : Str} {px : Pos} {ax : Addr} (I : Addr) (i : Nat) (s' : Shared) (v : Value) (Q' : Unit → Shared → Prop) (_ : s'.heap.IsListIter I ax i) (q : Q' () s') :
    wpAny (model prog w) A (letOwnedTupleGo (.Name x px) (.ref I) v) Q' (fun _ _ => False) s' := wpAny_of_eq (a := ()) rfl q
end
section
variable {prog : Program} {w : World} {A : Around} {E : Value → Shared → Prop} {s : Shared} {h₀ : Heap} {L : Addr} {m : Str → Option Value} {news : Led}
theorem r_rev {r : Addr} {b : Int} {t u v : Tok} {k : Nat} {Q : Value → Shared → Prop} (F : Fr h₀ L s.heap m) (N : News h₀ L s.heap news) (hr : IsRange s.heap r 0 b 1 t u v) (hb : b = (k : Int)) (hk : k ≤ 100000)
    (h : ∀ D h', Fr h₀ L h' m → News h₀ L h' ((D, riObj ((k : Int) - 1) k (-1)) :: news) → Q (.ref D) { s with heap := h' }) : wpAny (model prog w) A (call (.type "reversed") [.ref r]) Q E s := by
  subst hb
  have e : Builtin.Range.rangeSize 0 (k : Int) 1 = (k : Int) := by
    unfold Builtin.Range.rangeSize
    rw [if_pos (by decide)]
    split <;> lia
  have fit : ∀ i : Int, -200000 ≤ i → i ≤ 200000 → Builtin.Range.rangeFitsLong i = true := fun i a b => by
    unfold Builtin.Range.rangeFitsLong
    simp only [Bool.and_eq_true, decide_eq_true_eq]
    exact ⟨by lia, by lia⟩
  refine call_reversed_range hr ?_ ?_
  · rw [e]
    simp only [Bool.and_eq_true]
    exact ⟨⟨⟨⟨⟨fit _ (by lia) (by lia), fit _ (by lia) (by lia)⟩, fit _ (by lia) (by lia)⟩, fit _ (by lia) (by lia)⟩, fit _ (by lia) (by lia)⟩, fit _ (by lia) (by lia)⟩
  · rw [e, show (0 : Int) + ((k : Int) - 1) * 1 = (k : Int) - 1 by lia]
    exact h _ _ (F.push _) (News.push F N _)
end
section
variable {prog : Program} {w : World} {A : Around} {s : Shared} {h₀ : Heap} {L : Addr} {m : Str → Option Value} {env : Env} {elt ct : Expr} {x : Str} {scope : Scope} {cl : List (Str × Addr)} {S : Led → Prop} {P : Nat → Value → Prop} {Fin : List Value → Led → Prop}
open LCg LCt
theorem end_mono {s₁ s₂ : Shared} {I C D : Addr} {oI oC oD : Obj} {r r' : Value → Led → Prop} {y : Value} (hr : ∀ y n, r y n → r' y n) (h : CompEnd h₀ L m s₁ I oI C oC D oD S r y s₂) : CompEnd h₀ L m s₁ I oI C oC D oD S r' y s₂ := by
  obtain ⟨h', tk, news', e, F, N, o, hS, k⟩ := h
  exact ⟨h', tk, news', e, F, N, o, hS, hr _ _ k⟩
theorem comp_inv {n : Nat} (J : Nat → List Value → Led → Prop)
    (turn : ∀ i ys news v I oI C oC D m₂ h tk (E' : Value → Shared → Prop), i < n → J i ys news → P i v → NsObj oC m₂ → m₂ x = some v → Fr h₀ L h m → News h₀ L h ((I, oI) :: (C, oC) :: (D, lst ys) :: news) → Off3 I C D news → ((@Ne Nat I C) ∧ (@Ne Nat I D) ∧ (@Ne Nat C D)) →
      wpAny (model prog w) A (eval elt (compEnvC scope cl C env)) (CompEnd h₀ L m { s with heap := h, toks := tk } I oI C oC D (lst ys) S (fun y news' => Stopped (J (i + 1) (ys ++ [y]) news'))) E' { s with heap := h, toks := tk })
    (fin : ∀ ys news, J n ys news → Fin ys news) : ∀ k i ys news, i + k = n → J i ys news → CompRest prog w A h₀ L m env elt x scope cl s S P Fin k i ys news
  | 0, i, ys, news, e, j => by
    have e : i = n := e
    subst e
    exact CompRest.zero (fin _ _ j)
  | k + 1, i, ys, news, e, j => CompRest.succ fun v I oI C oC D m₂ h tk E' hP hC hx F N o1 o2 =>
    wpAny_mono (turn i ys news v I oI C oC D m₂ h tk E' (by lia) j hP hC hx F N o1 o2) (fun y s₂ he => end_mono (fun y n j' => comp_inv J turn fin k (i + 1) _ _ (by lia) j'.out) he) fun _ _ e => e
theorem compT_inv {n : Nat} (J : Nat → List Value → Led → Prop)
    (turn : ∀ i ys news v I oI C oC D m₂ h tk (E' : Value → Shared → Prop), i < n → J i ys news → P i v → NsObj oC m₂ → m₂ x = some v → Fr h₀ L h m → News h₀ L h ((I, oI) :: (C, oC) :: (D, lst ys) :: news) → Off3 I C D news → ((@Ne Nat I C) ∧ (@Ne Nat I D) ∧ (@Ne Nat C D)) →
      wpAny (model prog w) A (isTrue ct (compEnvC scope cl C env) (eval ct (compEnvC scope cl C env))) (fun ok s' => if ok = true then
        wpAny (model prog w) A (eval elt (compEnvC scope cl C env)) (CompEnd h₀ L m { s with heap := h, toks := tk } I oI C oC D (lst ys) S (fun y news' => Stopped (J (i + 1) (ys ++ [y]) news'))) E' s'
        else CompEnd h₀ L m { s with heap := h, toks := tk } I oI C oC D (lst ys) S (fun _ news' => Stopped (J (i + 1) ys news')) Value.none s') E' { s with heap := h, toks := tk })
    (fin : ∀ ys news, J n ys news → Fin ys news) : ∀ k i ys news, i + k = n → J i ys news → CompRestT prog w A h₀ L m env ct elt x scope cl s S P Fin k i ys news
  | 0, i, ys, news, e, j => by
    have e : i = n := e
    subst e
    exact CompRestT.zero (fin _ _ j)
  | k + 1, i, ys, news, e, j => CompRestT.succ fun v I oI C oC D m₂ h tk E' hP hC hx F N o1 o2 =>
    wpAny_mono (turn i ys news v I oI C oC D m₂ h tk E' (by lia) j hP hC hx F N o1 o2) (fun ok s' hb => by
      cases ok with
      | true =>
        simp only [if_true] at hb ⊢
        exact wpAny_mono hb (fun y s₂ he => end_mono (fun y n j' => compT_inv J turn fin k (i + 1) _ _ (by lia) j'.out) he) fun _ _ e => e
      | false =>
        simp only [Bool.false_eq_true, if_false] at hb ⊢
        exact end_mono (fun y n j' => compT_inv J turn fin k (i + 1) _ _ (by lia) j'.out) hb) fun _ _ e => e
end
theorem fitsL (i : Int) (a : -200000 ≤ i) (b : i ≤ 200000) : Builtin.Range.rangeFitsLong i = true := by
  unfold Builtin.Range.rangeFitsLong
  simp only [Bool.and_eq_true, decide_eq_true_eq]
  exact ⟨by lia, by lia⟩
theorem rsize1 {a b : Int} : Builtin.Range.rangeSize a b 1 = ((b - a).toNat : Int) := by
  unfold Builtin.Range.rangeSize
  rw [if_pos (by decide)]
  split <;> lia
theorem rsizeN {a b : Int} : Builtin.Range.rangeSize a b (-1) = ((a - b).toNat : Int) := by
  unfold Builtin.Range.rangeSize
  rw [if_neg (by decide)]
  have e : ∀ x : Int, x / (-(-1)) = x := fun x => by rw [Int.neg_neg, Int.ediv_one]
  split <;> (try rw [e]) <;> lia
theorem rsmall1 {a b : Int} (h1 : -1000 ≤ a) (h2 : a ≤ 1000) (h3 : -1000 ≤ b) (h4 : b ≤ 1000) : Builtin.Range.small a b 1 = true := by
  unfold Builtin.Range.small
  rw [rsize1, fitsL a (by lia) (by lia), fitsL b (by lia) (by lia), fitsL 1 (by decide) (by decide), fitsL _ (by lia) (by lia)]
  simp only [Bool.and_true, Bool.true_and]
  rw [if_pos (by decide), fitsL _ (by lia) (by lia), Bool.or_true]
theorem rsmallN {a b : Int} (h1 : -1000 ≤ a) (h2 : a ≤ 1000) (h3 : -1000 ≤ b) (h4 : b ≤ 1000) : Builtin.Range.small a b (-1) = true := by
  unfold Builtin.Range.small
  rw [rsizeN, fitsL a (by lia) (by lia), fitsL b (by lia) (by lia), fitsL (-1) (by decide) (by decide), fitsL _ (by lia) (by lia)]
  simp only [Bool.and_true, Bool.true_and]
  rw [if_neg (by decide), fitsL _ (by lia) (by lia), Bool.or_true]
end Mine
end
section
open PySem PySem.W PyProof.Rows PySem.Calls PySem.Spec
set_option maxRecDepth 100000
namespace Mine
/-- posixpath.dirname of a str -/
noncomputable def dirS (x : Str) : Str :=
  if ((Txt.slice x none (some (Txt.rfind x (Str.ofString "/") + 1))).length : Int) ≠ 0 ∧ (Txt.slice x none (some (Txt.rfind x (Str.ofString "/") + 1)) != Txt.mul (Str.ofString "/") ((Txt.slice x none (some (Txt.rfind x (Str.ofString "/") + 1))).length : Int)) = true
  then Txt.rstripChars (Txt.slice x none (some (Txt.rfind x (Str.ofString "/") + 1))) (Str.ofString "/") else Txt.slice x none (some (Txt.rfind x (Str.ofString "/") + 1))
/-- posixpath.join of two strs, the first not empty, the second not absolute -/
noncomputable def joinS (x y : Str) : Str := if Txt.endswith x (Str.ofString "/") = true then x ++ y else x ++ (Str.ofString "/" ++ y)
theorem dirS_eq1 {x : Str} (h1 : ((Txt.slice x none (some (Txt.rfind x (Str.ofString "/") + 1))).length : Int) ≠ 0) (h2 : (Txt.slice x none (some (Txt.rfind x (Str.ofString "/") + 1)) != Txt.mul (Str.ofString "/") ((Txt.slice x none (some (Txt.rfind x (Str.ofString "/") + 1))).length : Int)) = true) : dirS x = Txt.rstripChars (Txt.slice x none (some (Txt.rfind x (Str.ofString "/") + 1))) (Str.ofString "/") := if_pos ⟨h1, h2⟩
theorem dirS_eq2 {x : Str} (h2 : (Txt.slice x none (some (Txt.rfind x (Str.ofString "/") + 1)) != Txt.mul (Str.ofString "/") ((Txt.slice x none (some (Txt.rfind x (Str.ofString "/") + 1))).length : Int)) = false) : dirS x = Txt.slice x none (some (Txt.rfind x (Str.ofString "/") + 1)) := if_neg (fun h => Bool.noConfusion (h2.symm.trans h.2))
theorem dirS_eq3 {x : Str} (h1 : ((Txt.slice x none (some (Txt.rfind x (Str.ofString "/") + 1))).length : Int) = 0) : dirS x = Txt.slice x none (some (Txt.rfind x (Str.ofString "/") + 1)) := if_neg (fun h => h.1 h1)
theorem joinS_eq1 {x y : Str} (h : Txt.endswith x (Str.ofString "/") = true) : joinS x y = x ++ y := if_pos h
theorem joinS_eq2 {x y : Str} (h : Txt.endswith x (Str.ofString "/") = false) : joinS x y = x ++ (Str.ofString "/" ++ y) := if_neg (fun e => Bool.noConfusion (h.symm.trans e))
noncomputable def DirSpec (K : Params → Frag) (p : Program) (w : World) : Prop := ∀ (x : Str) (t : Tok), x.length ≤ 4096 → CallOk K p w 322 [.str x t] [] (fun _ => True) [] 6 40 (Gives (fun t => .str (dirS x) t))
noncomputable def JoinSpec (K : Params → Frag) (p : Program) (w : World) : Prop := ∀ (x y : Str) (t t' : Tok), x.length ≤ 4096 → y.length ≤ 4096 → 1 ≤ x.length → Txt.startswith y (Str.ofString "/") = false → CallOk K p w 315 [.str x t, .str y t'] [] (fun _ => True) [] 6 40 (Gives (fun t => .str (joinS x y) t))
end Mine
end
section
open PySem PySem.W PyProof.Rows PySem.Calls PySem.Spec
set_option maxRecDepth 100000
namespace Mine
theorem slot_tuple_lt : Slot "tuple" (cmpInfo .Lt).2.1 "tuple.__lt__" :=
  .of (owner := "tuple") (n := "__lt__") (by rw [typeLookup_type, builtinLookup_eq_fast]; kernel_rfl) (by decide +kernel) (by decide +kernel) (by decide +kernel)
    (by first | exact .inl (by decide +kernel) | exact .inr (by decide +kernel)) (by rw [isSubtype_type]; kernel_rfl)
theorem entry_tuple_lt : entryFor table "tuple.__lt__" = some Builtin.«tuple.__lt__» := entryFor_of_fast (by kernel_rfl)
theorem args_tuple_lt (a b : Value) : argsOk "tuple.__lt__" ⟨[a, b], []⟩ := by unfold argsOk; kernel_rfl

abbrev Pr := Int × Str
noncomputable def ltP (p q : Pr) : Bool := if p.1 = q.1 then (if p.2 = q.2 then false else decide (p.2.cps.toList < q.2.cps.toList)) else decide (p.1 < q.1)
/-- a pair (int, str) laid as a tuple -/
noncomputable abbrev tup2 (vs : List Value) : Obj := { cls := .type "tuple", data := .seq vs.toArray }
noncomputable def PairAt (h : Heap) (a : Addr) (p : Pr) : Prop := ∃ t u, h.get? a = some (tup2 [.int p.1 t, .str p.2 u])

section
variable {prog : Program} {w : World} {A : Around} {E : Value → Shared → Prop} {s : Shared}
theorem tup_lt_tree {a b : Addr} {p q : Pr} {P : PySem.Fin → Shared → Prop} (ha : PairAt s.heap a p) (hb : PairAt s.heap b q) (h : P (.done (.ret (.bool (ltP p q)))) s) :
    wpAny (model prog w) A (Builtin.«tuple.__lt__» ⟨[.ref a, .ref b], []⟩) P E s := by
  obtain ⟨t, u, ha⟩ := ha
  obtain ⟨t', u', hb⟩ := hb
  have hTb : s.TypeIs (.ref b) "tuple" := ⟨_, hb, rfl⟩
  show wpAny _ _ (isInstance (.ref b) (.type "tuple") >>= _) _ _ s
  refine wpAny_bind (wpAny_isInstance hTb isSubtype_tuple_tuple ?_)
  simp only [Bool.not_true, Bool.false_eq_true, if_false]
  refine wpAny_bind (wpAny_tupleItemsOf ha rfl ?_)
  refine wpAny_bind (wpAny_tupleItemsOf hb rfl ?_)
  simp only [List.zip_cons_cons, List.zip_nil_right]
  refine wpAny_bind ?_
  rw [List.forIn_cons]
  refine wpAny_bind (wpAny_bind (wpAny_eqBool_int ?_))
  by_cases e1 : p.1 = q.1
  · have e1' : (p.1 == q.1) = true := beq_iff_eq.mpr e1
    rw [e1']
    simp only [Bool.not_true, Bool.false_eq_true, if_false]
    refine wpAny_pure ?_
    dsimp only
    rw [List.forIn_cons]
    refine wpAny_bind (wpAny_bind (wpAny_eqBool_str ?_))
    by_cases e2 : p.2 = q.2
    · rw [decide_eq_true e2]
      simp only [Bool.not_true, Bool.false_eq_true, if_false]
      refine wpAny_pure ?_
      dsimp only
      rw [List.forIn_nil]
      refine wpAny_pure ?_
      have : ltP p q = false := by simp [ltP, e1, e2]
      rw [this] at h
      exact wpAny_pure h
    · rw [decide_eq_false e2]
      simp only [Bool.not_false, if_true]
      refine wpAny_bind (wpAny_rule (wpAny_bind ?_))
      have : ltP p q = decide (p.2.cps.toList < q.2.cps.toList) := by simp [ltP, e1, e2]
      rw [this] at h
      show wpAny _ _ (compareOp .Lt (.str p.2 u) (.str q.2 u')) _ _ s
      refine lt_str ?_
      exact wpAny_bind (wpAny_pure (wpAny_pure (wpAny_pure (wpAny_pure h))))
  · have e1' : (p.1 == q.1) = false := beq_eq_false_iff_ne.mpr e1
    rw [e1']
    simp only [Bool.not_false, if_true]
    refine wpAny_bind (wpAny_rule (wpAny_bind ?_))
    have : ltP p q = decide (p.1 < q.1) := by simp [ltP, e1]
    rw [this] at h
    show wpAny _ _ (compareOp .Lt (.int p.1 t) (.int q.1 t')) _ _ s
    refine lt_int ?_
    exact wpAny_bind (wpAny_pure (wpAny_pure (wpAny_pure (wpAny_pure h))))
theorem tup_lt {a b : Addr} {p q : Pr} {Q : Value → Shared → Prop} (hu : A.units < cLine) (ha : PairAt s.heap a p) (hb : PairAt s.heap b q) (h : Q (.bool (ltP p q)) s) :
    wpAny (model prog w) A (compareOp .Lt (.ref a) (.ref b)) Q E s := by
  have hTa : s.TypeIs (.ref a) "tuple" := let ⟨_, _, e⟩ := ha; ⟨_, e, rfl⟩
  have hTb : s.TypeIs (.ref b) "tuple" := let ⟨_, _, e⟩ := hb; ⟨_, e, rfl⟩
  refine cmp_ofLt ?_
  refine richCompare_meets_room (S := fun _ R s => (PairAt s.heap a p ∧ PairAt s.heap b q) ∧ R (.ok (.ret (.bool (ltP p q)))) s) hTa hTb slot_tuple_lt entry_tuple_lt (args_tuple_lt _ _) (fun _ _ _ _ _ hs => tup_lt_tree hs.1.1 hs.1.2 hs.2) ⟨⟨ha, hb⟩, ?_⟩ hu
  exact ⟨fun e => Value.noConfusion e, h⟩
end
end Mine
end
section
open PySem PySem.W PyProof.Rows PySem.Calls PySem.Spec
set_option maxRecDepth 100000
namespace Mine
abbrev It := Addr × Pr
noncomputable abbrev valsI (its : List It) : List Value := its.map fun q => Value.ref q.1
noncomputable def ItemsAt (h : Heap) (its : List It) : Prop := ∀ q ∈ its, PairAt h q.1 q.2
noncomputable abbrev it0 : It := (0, (0, ⟨#[]⟩))
theorem PairAt.keeps {h h' : Heap} {a : Addr} {p : Pr} (x : PairAt h a p) (k : ∀ b o, h.get? b = some o → h'.get? b = some o) : PairAt h' a p := let ⟨t, u, e⟩ := x; ⟨t, u, k _ _ e⟩
theorem ItemsAt.keeps {h h' : Heap} {its : List It} (x : ItemsAt h its) (k : ∀ b o, h.get? b = some o → h'.get? b = some o) : ItemsAt h' its := fun q hq => (x q hq).keeps k
theorem PairAt.down {h g h₀ : Heap} {L : Addr} {pre : List (Addr × Obj)} {a : Addr} {p : Pr} (x : PairAt h a p) (hg : ∀ b o, h.get? b = some o → b ∉ pre.map (·.1) → g.get? b = some o) (N : News h₀ L h pre) (hc : ∀ q ∈ pre, q.2.cls ≠ .type "tuple") : PairAt g a p := by
  obtain ⟨t, u, e⟩ := x
  refine ⟨t, u, hg _ _ e (fun hm => ?_)⟩
  obtain ⟨q, hq, rfl⟩ := List.mem_map.mp hm
  have e2 := (N q hq).1
  rw [e] at e2
  exact hc q hq (congrArg Obj.cls (Option.some.inj e2)).symm
theorem ItemsAt.down {h g h₀ : Heap} {L : Addr} {pre : List (Addr × Obj)} {its : List It} (x : ItemsAt h its) (hg : ∀ b o, h.get? b = some o → b ∉ pre.map (·.1) → g.get? b = some o) (N : News h₀ L h pre) (hc : ∀ q ∈ pre, q.2.cls ≠ .type "tuple") : ItemsAt g its := fun q hq => (x q hq).down hg N hc
theorem list_ne_tuple {a : Addr} {v : Array Value} {n : Nat} : ∀ q ∈ [(a, listOf v n)], q.2.cls ≠ .type "tuple" := fun q hq => by
  rw [List.mem_singleton.mp hq]
  intro e
  exact absurd (Value.type.inj e) (by decide)
theorem getD_mem {its : List It} {i : Nat} (hi : i < its.length) : its.getD i it0 ∈ its := by
  have e : its.getD i it0 = its[i] := by simp [List.getD_eq_getElem?_getD, hi]
  rw [e]; exact List.getElem_mem hi
theorem ItemsAt.getD {h : Heap} {its : List It} (x : ItemsAt h its) {i : Nat} (hi : i < its.length) : PairAt h (its.getD i it0).1 (its.getD i it0).2 := by
  have e : its.getD i it0 = its[i] := by simp [List.getD_eq_getElem?_getD, hi]
  rw [e]
  exact x _ (List.getElem_mem hi)
theorem mem_set {its : List It} {i : Nat} {x q : It} (h : q ∈ its.set i x) : q = x ∨ q ∈ its := by
  rcases List.mem_or_eq_of_mem_set h with h | h
  · exact .inr h
  · exact .inl h
/-- one place of a heap's way up -/
noncomputable def sd (start : Nat) (x : It) : Nat → Nat → List It → List It
  | 0, pos, ps => ps.set pos x
  | f + 1, pos, ps => if start < pos then (if ltP x.2 (ps.getD ((pos - 1) / 2) it0).2 = true then sd start x f ((pos - 1) / 2) (ps.set pos (ps.getD ((pos - 1) / 2) it0)) else ps.set pos x) else ps.set pos x

section
variable {prog : Program} {w : World} {A : Around} {E : Value → Shared → Prop} {s : Shared} {h₀ : Heap} {L D : Addr} {m : Str → Option Value} {news news' : List (Addr × Obj)} {its : List It} {n : Nat}

theorem while_rule {test : Expr} {body : List Stmt} {env : Env} {pos : Pos} {Q : Flow → Shared → Prop} (I : Nat → Shared → Prop)
    (turn : ∀ n s, I n s → wpAny (model prog w) A (isTrue test env (eval test env)) (fun b s₂ =>
        if b then wpAny (model prog w) A (execs body env) (fun f s₃ => match f with
            | .next | .cont => ∃ m, m < n ∧ I m s₃
            | .brk => Q .next s₃
            | .ret v => Q (.ret v) s₃) (fun _ _ => False) s₂
        else Q .next s₂) (fun _ _ => False) s)
    (n : Nat) (h : I n s) : wpAny (model prog w) A (exec (.While test body [] pos) env) Q E s := by
  refine wpAny_While (codeAny_whileLoop I (fun n s hI => ?_) n h)
  refine wpAny_mono (turn n s hI) (fun b s₂ h₂ => ?_) fun _ _ x => x.elim
  cases b with
  | true =>
    simp only [if_true] at h₂ ⊢
    exact wpAny_mono h₂ (fun f s₃ h₃ => by cases f <;> exact h₃) fun _ _ x => x.elim
  | false =>
    simp only [Bool.false_eq_true, if_false] at h₂ ⊢
    exact wpAny_pure h₂

theorem while_cut {test : Expr} {body : List Stmt} {env : Env} {pos : Pos} {Q : Flow → Shared → Prop} (P : Shared → Prop) (I : Nat → Shared → Prop) (n : Nat) (h : I n s)
    (turn : ∀ n s, I n s → wpAny (model prog w) A (isTrue test env (eval test env)) (fun b s₂ =>
        if b then wpAny (model prog w) A (execs body env) (fun f s₃ => match f with
            | .next | .cont => Stopped (∃ m, m < n ∧ I m s₃)
            | .brk => Stopped (P s₃)
            | .ret _ => False) (fun _ _ => False) s₂
        else Stopped (P s₂)) (fun _ _ => False) s)
    (rest : ∀ st, P st → Q .next st) : wpAny (model prog w) A (exec (.While test body [] pos) env) Q E s := by
  refine wpAny_mono (while_rule (Q := fun f st => match f with | .next => P st | _ => False) (E := fun _ _ => False) I (fun n s hI => wpAny_mono (turn n s hI) (fun b s₂ h₂ => ?_) fun _ _ x => x.elim) n h) (fun f st hp => ?_) fun _ _ x => x.elim
  · cases b with
    | true =>
      simp only [if_true] at h₂ ⊢
      exact wpAny_mono h₂ (fun f s₃ h₃ => by cases f <;> first | exact h₃.out | exact h₃) fun _ _ x => x.elim
    | false =>
      simp only [Bool.false_eq_true, if_false] at h₂ ⊢
      exact h₂.out
  · cases f <;> first | exact rest st hp | exact hp.elim

theorem r_get {value slice : Expr} {k : Int} {u : Tok} {Q : Value → Shared → Prop} (N : News h₀ L s.heap news) (hm : (D, listOf (valsI its).toArray n) ∈ news) (h0 : 0 ≤ k) (h1 : k < its.length) (hfit : its.length ≤ 1000) (h : Q (.ref (its.getD k.toNat it0).1) s)
    (hs : subscripted slice false (.ref D) (.int k u) = operate [.ref D, .int k u] (getItem (.ref D) (.int k u)) := by with_unfolding_all rfl) :
    wpAny (model prog w) A (subscriptTail value slice (.ref D) (.int k u)) Q E s := by
  have hl := PySem.IsL.isList (n := n) (N _ hm).1
  have hk : k.toNat < its.length := by lia
  refine tail_any hl.typeIs slot_list_getitem.lookup (wpAny_getItem_list hl h0 (by lia) (x := .ref (its.getD k.toNat it0).1) ?_ h) hs
  simp [List.getD_eq_getElem?_getD, hk]

theorem r_getN {value slice : Expr} {i : Nat} {u : Tok} {Q : Value → Shared → Prop} (N : News h₀ L s.heap news) (hm : (D, listOf (valsI its).toArray n) ∈ news) (h1 : i < its.length) (hfit : its.length ≤ 1000) (h : Q (.ref (its.getD i it0).1) s)
    (hs : subscripted slice false (.ref D) (.int (i : Int) u) = operate [.ref D, .int (i : Int) u] (getItem (.ref D) (.int (i : Int) u)) := by with_unfolding_all rfl) :
    wpAny (model prog w) A (subscriptTail value slice (.ref D) (.int (i : Int) u)) Q E s := r_get N hm (by lia) (by lia) hfit (by rw [Int.toNat_natCast]; exact h) hs
theorem half_of {a : Int} (h0 : 0 ≤ a) : a.fdiv (2 ^ Int.toNat 1) = ((a.toNat / 2 : Nat) : Int) := by
  obtain ⟨j, rfl⟩ := Int.eq_ofNat_of_zero_le h0
  show (j : Int).fdiv 2 = _
  rw [Int.fdiv_eq_ediv_of_nonneg _ (by decide)]
  simp
theorem r_shr {a : Int} {t u : Tok} {i : Nat} (h0 : 0 ≤ a) (e : a.toNat / 2 = i) {Q : Value → Shared → Prop} (h : ∀ t' k, Q (.int (i : Int) t') { s with toks := k }) : wpAny (model prog w) A (binaryOp .RShift (.int a t) (.int 1 u)) Q E s := by
  refine rshift_int (by decide) ?_
  have := h s.toks (s.toks + 1)
  rw [← e, ← half_of h0] at this
  exact this
theorem r_shrP {k : Nat} {t u : Tok} (h0 : 1 ≤ k) {Q : Value → Shared → Prop} (h : ∀ t' c, Q (.int (((k - 1) / 2 : Nat) : Int) t') { s with toks := c }) : wpAny (model prog w) A (binaryOp .RShift (.int ((k : Int) - 1) t) (.int 1 u)) Q E s :=
  r_shr (by lia) (by rw [show ((k : Int) - 1).toNat = k - 1 by lia]) h
theorem r_setN {i : Nat} {t : Tok} {x : It} {a : Addr} (ha : a = x.1) {Q : Unit → Shared → Prop} (F : Fr h₀ L s.heap m) (N : News h₀ L s.heap news) (h1 : i < its.length) (hfit : its.length ≤ 1000)
    (U : Upd D (listOf (valsI its).toArray n) (listOf (valsI (its.set i x)).toArray n) news news')
    (h : ∀ h', Fr h₀ L h' m → News h₀ L h' news' → Q () { s with heap := h' }) : wpAny (model prog w) A (setItem (.ref D) (.int (i : Int) t) (.ref a)) Q E s := by
  subst ha
  obtain ⟨pre, post, rfl, rfl, a, b⟩ := U.split
  have z := N (D, listOf (valsI its).toArray n) (List.mem_append.mpr (.inr (.head _)))
  refine ki_setAt z.1 (by lia) (by lia) (by simpa using h1) (h _ (F.change (Heap.SameBut.update ..) z.2.1 z.2.2) (ki_turn _ N a b ?_ ?_))
  · apply Array.toList_inj.mp
    simp [List.map_set]
  · simp
theorem r_set {k : Int} {t : Tok} {x : It} {a : Addr} (ha : a = x.1) {Q : Unit → Shared → Prop} (F : Fr h₀ L s.heap m) (N : News h₀ L s.heap news) (h0 : 0 ≤ k) (h1 : k < its.length) (hfit : its.length ≤ 1000)
    (U : Upd D (listOf (valsI its).toArray n) (listOf (valsI (its.set k.toNat x)).toArray n) news news')
    (h : ∀ h', Fr h₀ L h' m → News h₀ L h' news' → Q () { s with heap := h' }) : wpAny (model prog w) A (setItem (.ref D) (.int k t) (.ref a)) Q E s := by
  subst ha
  obtain ⟨pre, post, rfl, rfl, a, b⟩ := U.split
  have z := N (D, listOf (valsI its).toArray n) (List.mem_append.mpr (.inr (.head _)))
  refine ki_setAt z.1 h0 (by lia) (by simpa using h1) (h _ (F.change (Heap.SameBut.update ..) z.2.1 z.2.2) (ki_turn _ N a b ?_ ?_))
  · apply Array.toList_inj.mp
    simp [List.map_set]
  · simp
theorem r_append {x : It} {a : Addr} (ha : a = x.1) {Q : Value → Shared → Prop} (F : Fr h₀ L s.heap m) (N : News h₀ L s.heap news) (U : Upd D (listOf (valsI its).toArray n) (listOf (valsI (its ++ [x])).toArray (n + 1)) news news')
    (hfit : its.length ≤ 1000) (h : ∀ h', Fr h₀ L h' m → News h₀ L h' news' → Q .none { s with heap := h' }) : wpAny (model prog w) A (call (.builtin "list.append") [.ref D, .ref a]) Q E s := by
  subst ha
  have e : (valsI (its ++ [x])).toArray = (valsI its).toArray.push (.ref x.1) := by simp
  rw [e] at U
  exact append_K F N U h (by rw [List.size_toArray, List.length_map, sizeLine_eq]; lia)
theorem r_pop {Q : Value → Shared → Prop} (F : Fr h₀ L s.heap m) (N : News h₀ L s.heap news) (U : Upd D (listOf (valsI its).toArray n) (listOf (valsI its.dropLast).toArray (n + 1)) news news')
    (hne : 0 < its.length) (hfit : its.length ≤ 1000) (h : ∀ h', Fr h₀ L h' m → News h₀ L h' news' → Q (.ref (its.getLastD it0).1) { s with heap := h' }) : wpAny (model prog w) A (call (.builtin "list.pop") [.ref D]) Q E s := by
  have hd : valsI its.dropLast = (valsI its).dropLast := by simp [List.map_dropLast]
  have e : valsI its = (valsI its).dropLast ++ [.ref (its.getLastD it0).1] := by
    have hne' : its ≠ [] := by intro e; subst e; exact Nat.lt_irrefl _ hne
    have h1 := List.dropLast_concat_getLast hne'
    have h2 : its.getLastD it0 = its.getLast hne' := by
      cases its with
      | nil => exact absurd rfl hne'
      | cons a l => simp [List.getLastD]
    rw [h2]
    conv => lhs; rw [← h1]
    simp [List.map_dropLast]
  refine kl_pop F N (its := (valsI its).toArray) (p := valsI its.dropLast) (y := .ref (its.getLastD it0).1) ?_ U (by simp [sizeLine_eq]; lia) h
  have := kpa_last (.ref (its.getLastD it0).1) (valsI its).dropLast
  rw [← e] at this
  rw [hd]
  simpa using this
theorem r_len {Q : Value → Shared → Prop} (N : News h₀ L s.heap news) (hm : (D, listOf (valsI its).toArray n) ∈ news) (hfit : its.length ≤ 1000) (h : ∀ t k, Q (.int (its.length : Int) t) { s with toks := k }) : wpAny (model prog w) A (call (.builtin "len") [.ref D]) Q E s := by
  have hl := PySem.IsL.isList (n := n) (N _ hm).1
  refine len_list hl (by simp; lia) ?_
  have := h (s.toks + 1) (s.toks + 1 + 1)
  simpa using this
theorem r_truthy {Q : Bool → Shared → Prop} (N : News h₀ L s.heap news) (hm : (D, listOf (valsI its).toArray n) ∈ news) (hfit : its.length ≤ 1000) (h : ∀ k, Q (decide (0 < its.length)) { s with toks := k }) : wpAny (model prog w) A (truthy (.ref D)) Q E s := by
  have hl := PySem.IsL.isList (n := n) (N _ hm).1
  refine wpAny_truthy_list hl (by simp; lia) ?_
  have e : (!(valsI its).toArray.isEmpty) = decide (0 < its.length) := by cases its <;> simp
  rw [e]
  exact h _
end
/-- a heap's way down: the greater hole sinks, then the item climbs -/
noncomputable def suL : Nat → Nat → List It → Nat × List It
  | 0, pos, ps => (pos, ps)
  | f + 1, pos, ps => if 2 * pos + 1 < ps.length then
      (if 2 * pos + 2 < ps.length ∧ ltP (ps.getD (2 * pos + 1) it0).2 (ps.getD (2 * pos + 2) it0).2 = false then suL f (2 * pos + 2) (ps.set pos (ps.getD (2 * pos + 2) it0)) else suL f (2 * pos + 1) (ps.set pos (ps.getD (2 * pos + 1) it0)))
    else (pos, ps)
theorem suL_succ (f pos : Nat) (ps : List It) : suL (f + 1) pos ps = if 2 * pos + 1 < ps.length then
      (if 2 * pos + 2 < ps.length ∧ ltP (ps.getD (2 * pos + 1) it0).2 (ps.getD (2 * pos + 2) it0).2 = false then suL f (2 * pos + 2) (ps.set pos (ps.getD (2 * pos + 2) it0)) else suL f (2 * pos + 1) (ps.set pos (ps.getD (2 * pos + 1) it0)))
    else (pos, ps) := rfl
noncomputable def su (pos : Nat) (its : List It) : List It :=
  sd pos (its.getD pos it0) (suL its.length pos its).1 (suL its.length pos its).1 ((suL its.length pos its).2.set (suL its.length pos its).1 (its.getD pos it0))
noncomputable def SdSpec (K : Params → Frag) (p : Program) (w : World) : Prop := ∀ (l : Addr) (its : List It) (n start pos : Nat) (t1 t2 : Tok), its.length ≤ 1000 → pos < its.length →
  CallOk K p w 214 [.ref l, .int start t1, .int pos t2] [] (fun h => ItemsAt h its) [(l, listOf (valsI its).toArray n)] 3 20 (fun _ v n₁ => v = .none ∧ n₁ = [(l, listOf (valsI (sd start (its.getD pos it0) pos pos its)).toArray n)])
noncomputable def SuSpec (K : Params → Frag) (p : Program) (w : World) : Prop := ∀ (l : Addr) (its : List It) (n pos : Nat) (t2 : Tok), its.length ≤ 1000 → pos < its.length →
  CallOk K p w 221 [.ref l, .int pos t2] [] (fun h => ItemsAt h its) [(l, listOf (valsI its).toArray n)] 6 40 (fun _ v n₁ => v = .none ∧ n₁ = [(l, listOf (valsI (su pos its)).toArray n)])
theorem sd_mem {start : Nat} {x : It} : ∀ (f pos : Nat) (ps : List It) (q : It), pos < ps.length → q ∈ sd start x f pos ps → q = x ∨ q ∈ ps
  | 0, pos, ps, q, _, h => mem_set h
  | f + 1, pos, ps, q, hp, h => by
    unfold sd at h
    have g0 : (ps.getD ((pos - 1) / 2) it0) ∈ ps := by
      have hh : (pos - 1) / 2 < ps.length := by lia
      have e : ps.getD ((pos - 1) / 2) it0 = ps[(pos - 1) / 2] := by simp [List.getD_eq_getElem?_getD, hh]
      rw [e]
      exact List.getElem_mem hh
    split at h
    · split at h
      · rcases sd_mem f _ _ q (by rw [List.length_set]; lia) h with h | h
        · exact .inl h
        · rcases mem_set h with h | h
          · exact .inr (h ▸ g0)
          · exact .inr h
      · exact mem_set h
    · exact mem_set h
theorem sd_len {start : Nat} {x : It} : ∀ (f pos : Nat) (ps : List It), (sd start x f pos ps).length = ps.length
  | 0, pos, ps => by unfold sd; exact List.length_set ..
  | f + 1, pos, ps => by
    unfold sd
    split
    · split
      · rw [sd_len f, List.length_set]
      · exact List.length_set ..
    · exact List.length_set ..
end Mine
end
section
open PySem PySem.W PyProof.Rows PySem.Calls PySem.Spec
set_option maxRecDepth 100000
namespace Mine
noncomputable def SdSpecI (K : Params → Frag) (p : Program) (w : World) : Prop := ∀ (l : Addr) (its : List It) (n : Nat) (is ip : Int) (t1 t2 : Tok), its.length ≤ 1000 → 0 ≤ is → 0 ≤ ip → ip < its.length →
  CallOk K p w 214 [.ref l, .int is t1, .int ip t2] [] (fun h => ItemsAt h its) [(l, listOf (valsI its).toArray n)] 3 20 (fun _ v n₁ => v = .none ∧ n₁ = [(l, listOf (valsI (sd is.toNat (its.getD ip.toNat it0) ip.toNat ip.toNat its)).toArray n)])
noncomputable def SuSpecI (K : Params → Frag) (p : Program) (w : World) : Prop := ∀ (l : Addr) (its : List It) (n : Nat) (ip : Int) (t2 : Tok), its.length ≤ 1000 → 0 ≤ ip → ip < its.length →
  CallOk K p w 221 [.ref l, .int ip t2] [] (fun h => ItemsAt h its) [(l, listOf (valsI its).toArray n)] 6 40 (fun _ v n₁ => v = .none ∧ n₁ = [(l, listOf (valsI (su ip.toNat its)).toArray n)])
theorem SdSpec.int {K : Params → Frag} {p : Program} {w : World} (S : SdSpec K p w) : SdSpecI K p w := fun l its n is ip t1 t2 h1 h2 h3 h4 => by
  obtain ⟨i, rfl⟩ := Int.eq_ofNat_of_zero_le h2
  obtain ⟨j, rfl⟩ := Int.eq_ofNat_of_zero_le h3
  rw [Int.toNat_natCast, Int.toNat_natCast]
  exact S l its n i j t1 t2 h1 (by lia)
theorem SuSpec.int {K : Params → Frag} {p : Program} {w : World} (S : SuSpec K p w) : SuSpecI K p w := fun l its n ip t2 h1 h3 h4 => by
  obtain ⟨j, rfl⟩ := Int.eq_ofNat_of_zero_le h3
  rw [Int.toNat_natCast]
  exact S l its n j t2 h1 (by lia)
theorem getLastD_mem {its : List It} (h : 0 < its.length) : its.getLastD it0 ∈ its := by
  cases its with
  | nil => exact absurd h (Nat.lt_irrefl _)
  | cons a l =>
    have : (a :: l).getLastD it0 = (a :: l).getLast (by simp) := by simp [List.getLastD]
    rw [this]
    exact List.getLast_mem _
noncomputable def pushI (its : List It) (x : It) : List It := sd 0 x its.length its.length (its ++ [x])
noncomputable def popI (its : List It) : It × List It := if 1 < its.length then (its.getD 0 it0, su 0 (its.dropLast.set 0 (its.getLastD it0))) else (its.getLastD it0, its.dropLast)
theorem popI_eq1 {its : List It} (h : 1 < its.length) : popI its = (its.getD 0 it0, su 0 (its.dropLast.set 0 (its.getLastD it0))) := if_pos h
theorem popI_eq2 {its : List It} (h : ¬ 1 < its.length) : popI its = (its.getLastD it0, its.dropLast) := if_neg h
theorem dropLast_head {its : List It} (h : 1 < its.length) : its.dropLast.getD 0 it0 = its.getD 0 it0 := by
  match its, h with
  | a :: b :: r, _ => rfl
noncomputable def PushSpec (K : Params → Frag) (p : Program) (w : World) : Prop := ∀ (l : Addr) (its : List It) (n : Nat) (x : It), its.length ≤ 900 →
  CallOk K p w 193 [.ref l, .ref x.1] [] (fun h => ItemsAt h its ∧ PairAt h x.1 x.2) [(l, listOf (valsI its).toArray n)] 9 60 (fun _ v n₁ => v = .none ∧ n₁ = [(l, listOf (valsI (pushI its x)).toArray (n + 1))])
noncomputable def PopSpec (K : Params → Frag) (p : Program) (w : World) : Prop := ∀ (l : Addr) (its : List It) (n : Nat), its.length ≤ 900 → 0 < its.length →
  CallOk K p w 200 [.ref l] [] (fun h => ItemsAt h its) [(l, listOf (valsI its).toArray n)] 9 60 (fun _ v n₁ => v = .ref (popI its).1.1 ∧ n₁ = [(l, listOf (valsI (popI its).2).toArray (n + 1))])
theorem r_lenK {prog : Program} {w : World} {A : Around} {E : Value → Shared → Prop} {s : Shared} {h₀ : Heap} {L D : Addr} {news : List (Addr × Obj)} {its : List It} {n : Nat} {j : Int} {Q : Value → Shared → Prop} (N : News h₀ L s.heap news) (hm : (D, listOf (valsI its).toArray n) ∈ news) (hj : (its.length : Int) = j) (hfit : its.length ≤ 1000) (h : ∀ t k, Q (.int j t) { s with toks := k }) : wpAny (model prog w) A (call (.builtin "len") [.ref D]) Q E s :=
  r_len N hm hfit (by rw [hj]; exact h)
theorem suL_len : ∀ (f pos : Nat) (ps : List It), (suL f pos ps).2.length = ps.length
  | 0, _, _ => rfl
  | f + 1, pos, ps => by
    rw [suL_succ]
    split
    · split
      · rw [suL_len f, List.length_set]
      · rw [suL_len f, List.length_set]
    · rfl
theorem suL_lt : ∀ (f pos : Nat) (ps : List It), pos < ps.length → (suL f pos ps).1 < ps.length
  | 0, _, _, h => h
  | f + 1, pos, ps, h => by
    rw [suL_succ]
    split
    · split
      · rename_i h1 h2
        exact (by simpa using suL_lt f (2 * pos + 2) (ps.set pos (ps.getD (2 * pos + 2) it0)) (by rw [List.length_set]; exact h2.1))
      · rename_i h1 _
        exact (by simpa using suL_lt f (2 * pos + 1) (ps.set pos (ps.getD (2 * pos + 1) it0)) (by rw [List.length_set]; exact h1))
    · exact h
theorem suL_mem : ∀ (f pos : Nat) (ps : List It) (q : It), q ∈ (suL f pos ps).2 → q ∈ ps
  | 0, _, _, _, h => h
  | f + 1, pos, ps, q, h => by
    rw [suL_succ] at h
    split at h
    · split at h
      · rename_i h1 h2
        rcases mem_set (suL_mem f _ _ q h) with h | h
        · rw [h]; exact getD_mem h2.1
        · exact h
      · rename_i h1 _
        rcases mem_set (suL_mem f _ _ q h) with h | h
        · rw [h]; exact getD_mem h1
        · exact h
    · exact h
theorem su_len {pos : Nat} {its : List It} : (su pos its).length = its.length := by unfold su; rw [sd_len, List.length_set, suL_len]
theorem su_mem {pos : Nat} {its : List It} (hp : pos < its.length) {q : It} (h : q ∈ su pos its) : q ∈ its := by
  unfold su at h
  rcases sd_mem _ _ _ _ (by rw [List.length_set, suL_len]; exact suL_lt _ _ _ hp) h with h | h
  · rw [h]; exact getD_mem hp
  · rcases mem_set h with h | h
    · rw [h]; exact getD_mem hp
    · exact suL_mem _ _ _ _ h
noncomputable def hfyL : Nat → List It → List It
  | 0, its => its
  | k + 1, its => hfyL k (su k its)
noncomputable def hfyI (its : List It) : List It := hfyL (its.length / 2) its
noncomputable def HfySpec (K : Params → Frag) (p : Program) (w : World) : Prop := ∀ (l : Addr) (its : List It) (n : Nat), its.length ≤ 900 →
  CallOk K p w 207 [.ref l] [] (fun h => ItemsAt h its) [(l, listOf (valsI its).toArray n)] 9 60 (fun _ v n₁ => v = .none ∧ n₁ = [(l, listOf (valsI (hfyI its)).toArray n)])
theorem rangeSize_half (n : Nat) : Builtin.Range.rangeSize 0 ((n : Int) / 2) 1 = ((n / 2 : Nat) : Int) := by
  unfold Builtin.Range.rangeSize
  rw [if_pos (by decide)]
  split <;> simp <;> lia
end Mine
end
section
open PySem PySem.W PyProof.Rows PySem.Calls PySem.Spec
set_option maxRecDepth 100000
namespace Mine
noncomputable def clean (x : Str) : Bool := x.cps.all fun c => decide (32 ≤ c) && decide (c < 127)
theorem plain_rep : PlainAttrs "re.Pattern" := ⟨⟨"object.__getattribute__", by rw [typeLookup_type, builtinLookup_eq_fast]; kernel_rfl, by decide +kernel⟩, by rw [typeLookup_type, builtinLookup_eq_fast]; kernel_rfl⟩
theorem owner_rep : Manifest.owners.lookup (String.ofList ['n', 'r', 'e', 't', 't', 'a', 'P', '.', 'e', 'r'].reverse) = some Manifest.sig_re_Pattern := by kernel_rfl
theorem slot_rep_search : Slot "re.Pattern" "search" "re.Pattern.search" :=
  .of (owner := "re.Pattern") (n := "search") (by rw [typeLookup_type, builtinLookup_eq_fast]; kernel_rfl) (by decide +kernel) (by decide +kernel) (by decide +kernel)
    (by first | exact .inl (by decide +kernel) | exact .inr (by decide +kernel)) (by rw [isSubtype_type]; kernel_rfl)
theorem type_rep_search : typeOf (.builtin "re.Pattern.search") = pure (.type "method_descriptor") := by show builtinType _ = _; rw [builtinType_eq_fast]; kernel_rfl
theorem entry_rep_search : entryFor table "re.Pattern.search" = some Builtin.«re.Pattern.search» := entryFor_of_tree (by kernel_rfl)
theorem args_rep_search_2 (a b : Value) : argsOk "re.Pattern.search" ⟨[a, b], []⟩ := by
  unfold argsOk; rw [signature?_of (id := "re.Pattern.search") (n := ['h', 'c', 'r', 'a', 'e', 's']) (o := ['n', 'r', 'e', 't', 't', 'a', 'P', '.', 'e', 'r']) (by kernel_rfl) owner_rep]; kernel_rfl

noncomputable def nameCode : Array Nat := #[14, 10, 4, 1, 1, 22, 0, 31, 16, 127, 0, 13, 7, 22, 0, 31, 16, 127, 0, 1]
noncomputable def valueCode : Array Nat := #[14, 14, 4, 1, 1, 9, 4294966783, 0, 0, 2147483648, 0, 0, 0, 0, 0, 13, 11, 9, 4294966783, 0, 0, 2147483648, 0, 0, 0, 0, 0, 1]
/-- a search whose first set takes no clean letter -/
noncomputable def Bars (code : Array Nat) : Prop := ∀ c, 32 ≤ c → c < 127 → ∀ seen, ∃ seen', Sre.inSet code c code.size 5 true seen = .ok (false, seen')
noncomputable def isNo (e : Except String (Bool × Sre.Seen)) : Prop := ∃ s, e = .ok (false, s)
theorem bars_name : Bars nameCode := fun c h1 h2 seen => by
  show isNo (Sre.inSet nameCode c 20 5 true seen)
  rw [Sre.inSet]
  show isNo (if (decide (0 ≤ c) && decide (c ≤ 31)) = true then _ else Sre.inSet nameCode c 19 8 true _)
  rw [if_neg (by simp; lia), Sre.inSet]
  show isNo (if (c == 127) = true then _ else Sre.inSet nameCode c 18 10 true _)
  rw [if_neg (by simp; lia), Sre.inSet]
  exact ⟨_, rfl⟩
theorem value_bits : ∀ c, c < 127 → 32 ≤ c → (decide (c < 256) && (valueCode.getD (5 + (1 + c / 32)) 0).testBit (c % 32)) = false := by decide +kernel
theorem bars_value : Bars valueCode := fun c h1 h2 seen => by
  show isNo (Sre.inSet valueCode c 28 5 true seen)
  rw [Sre.inSet]
  show isNo (if (decide (c < 256) && (valueCode.getD (5 + (1 + c / 32)) 0).testBit (c % 32)) = true then _ else Sre.inSet valueCode c 27 14 true _)
  rw [value_bits c h2 h1, if_neg Bool.false_ne_true, Sre.inSet]
  exact ⟨_, rfl⟩
open Sre in
theorem admitted_none {m : M} (hb : Bars m.code) (hc : ∀ i, i < m.lim → 32 ≤ m.text.getD i 0 ∧ m.text.getD i 0 < 127) : ∀ (fuel s : Nat) (seen : Sre.Seen), ∃ seen', M.admitted m fuel s seen = .ok (none, seen')
  | 0, _, seen => ⟨seen, rfl⟩
  | fuel + 1, s, seen => by
    rw [M.admitted]
    by_cases h : s ≥ m.lim
    · exact ⟨seen, if_pos h⟩
    · rw [if_neg h]
      obtain ⟨s1, e1⟩ := hb _ (hc s (by lia)).1 (hc s (by lia)).2 seen
      rw [e1]
      exact admitted_none hb hc fuel (s + 1) s1
open Sre in
theorem from_none {m : M} (hf : m.hasFirstSet = true) (hb : Bars m.code) (hc : ∀ i, i < m.lim → 32 ≤ m.text.getD i 0 ∧ m.text.getD i 0 < 127) (s : Nat) (first : Bool) : ∃ seen', m.attemptFrom s first = M.say { m with seen := seen' } false := by
  obtain ⟨s1, e1⟩ := admitted_none hb hc (m.lim + 1 - s) s m.seen
  refine ⟨s1, ?_⟩
  unfold M.attemptFrom
  rw [hf, e1]
  rfl
open Sre in
theorem search_say {code text : Array Nat} {n : Nat} (hb : Bars code) (hh : header code = (1, n)) (hf : ∀ m : M, m.code = code → m.hasFirstSet = true) (hc : ∀ i, i < text.size → 32 ≤ text.getD i 0 ∧ text.getD i 0 < 127) :
    ∃ m : M, forSearch code text 0 0 text.size false = m.say false ∧ m.outcome = none ∧ m.frames = [] := by
  unfold forSearch
  rw [hh]
  dsimp only
  by_cases h0 : text.size < 1
  · rw [if_pos (by rw [Bool.or_eq_true]; right; exact decide_eq_true (by lia))]
    exact ⟨_, rfl, rfl, rfl⟩
  · rw [if_neg (by rw [Bool.or_eq_true, decide_eq_true_eq, decide_eq_true_eq]; lia)]
    refine ⟨_, (from_none ?_ ?_ ?_ 0 true).choose_spec, rfl, rfl⟩
    · exact hf _ rfl
    · exact hb
    · exact hc
theorem run_say {m : Sre.M} (ho : m.outcome = none) (hf : m.frames = []) : (m.say false).runFor 4 = { m.say false with outcome := some .failed } := by
  obtain ⟨⟩ := m
  dsimp only at ho hf
  subst ho hf
  rfl
section
variable {prog : Program} {w : World} {A : Around} {E : Value → Shared → Prop} {s : Shared}
theorem wp_skip {α : Type} {body : α → PUnit → Sem (ForInStep PUnit)} (hb : ∀ a s (Q : ForInStep PUnit → Shared → Prop), Q (.yield ⟨⟩) s → wpAny (model prog w) A (body a ⟨⟩) Q E s) : ∀ (l : List α) {s : Shared} {Q : PUnit → Shared → Prop}, Q ⟨⟩ s → wpAny (model prog w) A (forIn l PUnit.unit body) Q E s
  | [], s, Q, h => wpAny_pure h
  | a :: l, s, Q, h => by
    rw [List.forIn_cons]
    exact wpAny_bind (hb a s _ (wp_skip hb l h))
open Builtin.Re in
theorem run_none {m : Sre.M} {Q : Option Sre.M → Shared → Prop} (ho : m.outcome = none) (hf : m.frames = []) (h : Q none s) : wpAny (model prog w) A (reRunToEnd (m.say false)) Q E s := by
  unfold reRunToEnd
  refine wpAny_bind ?_
  show wpAny _ _ (reDrive (18446744073709551615 + 1) (m.say false)) _ _ _
  rw [reDrive]
  show wpAny _ _ (if ((m.say false).runFor 4).outcome.isSome = true then pure ((m.say false).runFor 4) else _) _ _ _
  rw [run_say ho hf]
  refine wpAny_pure ?_
  refine wpAny_bind (wp_skip (fun a s Q h => ?_) _ ?_)
  · dsimp only
    split
    · exact wpAny_bind (wpAny_rule (wpAny_pure h))
    · exact wpAny_pure h
  · exact wpAny_pure h
noncomputable def patObj (src : Value) (fl : Value) (codes : Addr) : Obj := { cls := .type "re.Pattern", data := .fields #[src, fl, .int 0 0, .none, .none, .ref codes, .int 0 0] }
open Builtin.Re in
theorem search_none {a codes : Addr} {src fl : Value} {vs : Array Value} {oc : Obj} {code : Array Nat} {n : Nat} {x : Str} {t : Tok} {Q : Value → Shared → Prop} (ha : s.heap.get? a = some (patObj src fl codes)) (hcod : s.heap.get? codes = some oc) {k : Nat} (hd : oc.data = .seq vs k)
    (hv : (vs.map reRawOf).map (·.toNat) = code) (hb : Bars code) (hh : Sre.header code = (1, n)) (hf : ∀ m : Sre.M, m.code = code → m.hasFirstSet = true) (hx : clean x = true) (hl : x.cps.size ≤ 100000) (h : Q .none s) :
    wpAny (model prog w) A (call (.builtin "re.Pattern.search") [.ref a, .str x t]) Q E s := by
  have hT : s.TypeIs (.ref a) "re.Pattern" := ⟨_, ha, rfl⟩
  refine wpAny_call_entry slot_rep_search hT entry_rep_search ?_ (args_rep_search_2 _ _)
  unfold Builtin.«re.Pattern.search»
  refine wpAny_bind ?_
  unfold reTarget
  dsimp only
  refine wpAny_bind (wpAny_of_eq (a := [some (.str x t), none, none]) (by rfl) ?_)
  dsimp only
  refine wpAny_bind (wpAny_pure ?_)
  refine wpAny_bind (wpAny_pure ?_)
  refine wpAny_bind (wpAny_fieldsOf ha rfl ?_)
  refine wpAny_bind (m := reTextOf (.str x t)) ?_
  unfold reTextOf
  refine wpAny_bind (wpAny_of_eq (a := some x) (by rfl) ?_)
  refine wpAny_pure ?_
  dsimp only
  refine wpAny_bind (m := (pure PUnit.unit : Sem PUnit)) (wpAny_pure ?_)
  refine wpAny_bind (m := reRawItems (.ref codes)) ?_
  unfold reRawItems
  refine wpAny_bind (wpAny_seqItems hcod hd (wpAny_pure ?_))
  refine wpAny_pure ?_
  unfold reAnswer
  dsimp only
  rw [Option.getD_some, hv]
  have hcl : ∀ i, i < x.cps.size → 32 ≤ x.cps.getD i 0 ∧ x.cps.getD i 0 < 127 := fun i hi => by
    unfold clean at hx
    rw [Array.all_eq_true] at hx
    have := hx i hi
    rw [Bool.and_eq_true, decide_eq_true_eq, decide_eq_true_eq] at this
    simpa [Array.getD, hi] using this
  obtain ⟨m, e1, e2, e3⟩ := search_say (text := x.cps) hb hh hf hcl
  have e0 : Sre.forSearch code x.cps (reRawNat ((#[src, fl, .int 0 0, .none, .none, .ref codes, .int 0 0] : Array Value).getD 2 .none)) (min (Int.toNat 0) x.cps.size) (min (Int.toNat (2 ^ 63 - 1)) x.cps.size) false = m.say false := by
    rw [show min (Int.toNat 0) x.cps.size = 0 from Nat.zero_min _]
    rw [show min (Int.toNat (2 ^ 63 - 1)) x.cps.size = x.cps.size from Nat.min_eq_right (by lia)]
    exact e1
  show wpAny _ _ (reRunToEnd (Sre.forSearch code x.cps (reRawNat ((#[src, fl, .int 0 0, .none, .none, .ref codes, .int 0 0] : Array Value).getD 2 .none)) (min (Int.toNat 0) x.cps.size) (min (Int.toNat (2 ^ 63 - 1)) x.cps.size) false) >>= _) _ _ _
  rw [e0]
  refine wpAny_bind (run_none e2 e3 ?_)
  exact wpAny_pure ⟨_, rfl, h⟩
theorem r_search {K : Frag} {h₀ : Heap} {L : Addr} {m : Str → Option Value} {a codes : Addr} {src fl : Value} {vs : Array Value} {oc : Obj} {code : Array Nat} {n : Nat} {x : Str} {t : Tok} {Q : Value → Shared → Prop} {k : Nat}
    (X : K.In h₀) (F : Fr h₀ L s.heap m) (ha : K.lookup a = some (patObj src fl codes)) (hcod : K.lookup codes = some oc) (hd : oc.data = .seq vs k)
    (hv : (vs.map Builtin.Re.reRawOf).map (·.toNat) = code) (hb : Bars code) (hh : Sre.header code = (1, n)) (hf : ∀ m : Sre.M, m.code = code → m.hasFirstSet = true) (hx : clean x = true) (hl : x.length ≤ 4096) (h : Q .none s) :
    wpAny (model prog w) A (call (.builtin "re.Pattern.search") [.ref a, .str x t]) Q E s :=
  search_none (X.keeps F.keep _ _ ha) (X.keeps F.keep _ _ hcod) hd hv hb hh hf hx (Nat.le_trans hl (by decide)) h
theorem r_searchM {K : Frag} {h₀ : Heap} {L : Addr} {m : Str → Option Value} {a codes : Addr} {src fl : Value} {pl : Sem Bool} {Q : Value × List Value → Shared → Prop}
    (X : K.In h₀) (F : Fr h₀ L s.heap m) (ha : K.lookup a = some (patObj src fl codes)) (h : Q (.builtin "re.Pattern.search", [.ref a]) s) : wpAny (model prog w) A (getMethod (.ref a) (Str.ofString "search") pl) Q E s := by
  have h1 := X.keeps F.keep _ _ ha
  exact getMethod_builtin (T := "re.Pattern") ⟨_, h1, rfl⟩ plain_rep slot_rep_search type_rep_search (fun b e => by injection e with e; subst e; exact ⟨_, h1, rfl⟩) h
theorem first_name : ∀ m : Sre.M, m.code = nameCode → m.hasFirstSet = true := fun m h => by unfold Sre.M.hasFirstSet; rw [h]; rfl
theorem first_value : ∀ m : Sre.M, m.code = valueCode → m.hasFirstSet = true := fun m h => by unfold Sre.M.hasFirstSet; rw [h]; rfl
end
end Mine
end
section
open PySem PySem.W PyProof.Rows PySem.Calls PySem.Spec
set_option maxRecDepth 100000
namespace Mine
noncomputable abbrev slObj : Obj := { cls := .type "slice", data := .fields #[.none, .none, .none] }
section
variable {prog : Program} {w : World} {A : Around} {E : Value → Shared → Prop} {s : Shared} {h₀ : Heap} {L : Addr} {m : Str → Option Value} {news : Led}
open Builtin.List in
theorem setSlice {l sl D : Addr} {xs ys : Array Value} {n k : Nat} {Q : Unit → Shared → Prop} (hl : s.heap.get? l = some (listOf xs n)) (hD : s.heap.get? D = some (listOf ys k)) (hne : l ≠ D)
    (hs : s.heap.IsSliceOf sl .none .none .none) (hx : xs.size ≤ 1000) (hy : ys.size ≤ 1000)
    (h : Q () { s with heap := s.heap.update l (Obj.mapSeq fun xs' => xs'.extract 0 0 ++ ys ++ xs'.extract xs.size xs'.size) }) : wpAny (model prog w) A (setItem (.ref l) (.ref sl) (.ref D)) Q E s := by
  have hL : s.heap.IsList l xs := PySem.IsL.isList (n := n) hl
  have hLD : s.heap.IsList D ys := PySem.IsL.isList (n := k) hD
  obtain ⟨os, hos, hcs, hds⟩ := id hs
  have hTs : s.TypeIs (.ref sl) "slice" := ⟨os, hos, hcs⟩
  unfold setItem
  try with_reducible refine wpAny_holding ?_
  first | refine wpAny_bind (wpAny_pure ?_) | skip
  refine wpAny_bind (wpAny_sequenceKey hL.typeIs (by decide) ?_)
  refine wpAny_bind (wpAny_callSpecial?_slot (name := Str.ofString "__setitem__") hL.typeIs slot_list_setitem
    (wpAny_call_entry slot_list_setitem hL.typeIs entry_list_setitem ?_ (args_list_setitem _ _ _)))
  show wpAny _ _ (Builtin.List.listSubscript? (.ref sl) >>= _) _ _ s
  refine wpAny_bind ?_
  unfold Builtin.List.listSubscript?
  refine wpAny_bind (wpAny_specialOf hTs slice_no_index ?_)
  simp only [Option.isNone_none, if_true]
  refine wpAny_pure ?_
  show wpAny _ _ (typeOf (.ref sl) >>= _) _ _ s
  refine wpAny_bind (wpAny_typeOf hTs ?_)
  rw [if_neg (by decide)]
  rw [listSliceParts_eq]
  refine wpAny_bind (wpAny_bind (wpAny_field hos hds (x := .none) rfl (wpAny_bind (wpAny_listPart .none ?_))))
  rw [if_neg (by exact Bool.false_ne_true)]
  refine wpAny_bind (wpAny_field hos hds (x := .none) rfl (wpAny_bind (wpAny_listPart .none ?_)))
  refine wpAny_bind (wpAny_field hos hds (x := .none) rfl (wpAny_bind (wpAny_listPart .none (wpAny_pure ?_))))
  dsimp only
  have hsr : listSameRef (.ref l) (.ref D) = false := by unfold listSameRef; exact beq_false_of_ne hne
  rw [hsr]
  simp only [Bool.false_eq_true, if_false]
  refine wpAny_bind (m := listAllItems (.ref D) _) ?_
  unfold listAllItems
  refine wpAny_bind (wpAny_typeOf hLD.typeIs ?_)
  rw [if_pos (by decide)]
  refine wpAny_listItems hD rfl ?_
  refine wpAny_bind (wpAny_listItems hl rfl ?_)
  refine wpAny_bind (wpAny_of_eq (sliceIndices_raw none none none xs.size (by decide)) ?_)
  have e : sliceBounds none none none xs.size = (((0 : Nat) : Int), (xs.size : Int), 1) := by simp [sliceBounds]
  rw [e]
  dsimp only
  rw [if_pos (by decide)]
  refine wpAny_bind (wpAny_rule ?_)
  have ht : listTooLong (xs.size + ys.size) = false := by
    unfold listTooLong
    rw [decide_eq_false_iff_not, sizeLine_eq]
    lia
  rw [ht]
  simp only [Bool.false_eq_true, if_false]
  have hm : (max ((0 : Nat) : Int) (xs.size : Int)).toNat = xs.size := by lia
  rw [hm]
  have hb : (Array.extract xs 0 0 ++ ys ++ Array.extract xs xs.size).size ≤ sizeLine + 1 := by
    rw [sizeLine_eq]; simp; lia
  have hxs : xs.size ≤ sizeLine := by rw [sizeLine_eq]; lia
  refine wpAny_bind (m := listUpdate (.ref l) _) (wpAny_updateSeq (f := fun xs' => xs'.extract 0 0 ++ ys ++ xs'.extract xs.size xs'.size) hl rfl ?_ hxs hb)
  refine wpAny_bind (wpAny_letGo ?_)
  exact wpAny_pure ⟨_, rfl, wpAny_pure h⟩
theorem r_setSlice {l D : Addr} {xs ys : Array Value} {n k : Nat} {gl : Obj → Led} {Q : Unit → Shared → Prop} (F : Fr h₀ L s.heap m) (N : News h₀ L s.heap news) (hD : (D, listOf ys k) ∈ news) (U : UpdF l (listOf xs n) news gl) (hne : @Ne Nat l D) (hx : xs.size ≤ 1000) (hy : ys.size ≤ 1000)
    (h : ∀ n' h', Fr h₀ L h' m → News h₀ L h' (gl (listOf ys n')) → Q () { s with heap := h' }) :
    wpAny (model prog w) A (setItem (.ref l) (.ref s.heap.objs.size) (.ref D)) Q E { s with heap := s.heap.push slObj } := by
  obtain ⟨pl, pr, rfl, hg, a1, a2⟩ := U.split
  have up : ∀ b o, s.heap.get? b = some o → (s.heap.push slObj).get? b = some o := fun b o e => Heap.get?_push_of_some _ e
  have F' := F.keeps up
  have N' := N.grown up
  have z := N' (l, listOf xs n) (List.mem_append.mpr (.inr (.head _)))
  refine setSlice z.1 (N' _ hD).1 hne (Heap.IsSliceOf.new _ _ _ _) hx hy (h _ _ (F'.change (Heap.SameBut.update ..) z.2.1 z.2.2) (hg _ ▸ ki_turn _ N' a1 a2 ?_ rfl))
  apply Array.toList_inj.mp
  simp
theorem r_sliceAll {l : Addr} {its : Array Value} {n : Nat} {value slice : Expr} {Q : Value → Shared → Prop} (F : Fr h₀ L s.heap m) (N : News h₀ L s.heap news) (hm : (l, listOf its n) ∈ news)
    (h : ∀ D h', Fr h₀ L h' m → News h₀ L h' ((D, listOf its 0) :: news) → (∀ p ∈ news, p.1 < D) → Q (.ref D) { s with heap := h' })
    (hs : subscripted slice false (.ref l) (.ref s.heap.objs.size) = operate [.ref s.heap.objs.size, .ref l] (getItem (.ref l) (.ref s.heap.objs.size))) (ht : ∀ r, letTemporaryGo value (.ref l) r = pure ()) (hz : its.size ≤ 1000) :
    wpAny (model prog w) A (subscriptTail value slice (.ref l) (.ref s.heap.objs.size)) Q E { s with heap := s.heap.push slObj } :=
  kmk_slice F N (PySem.IsL.isList (n := n) (N _ hm).1) .none .none (fun D h' F' N' l1 => h D h' F' (by rw [slicePick_all] at N'; exact N') l1) hs ht (by rw [sizeLine_eq]; lia)
theorem rv_len {D : Addr} {vs : List Value} {n : Nat} {Q : Value → Shared → Prop} (N : News h₀ L s.heap news) (hm : (D, listOf vs.toArray n) ∈ news) (hfit : vs.length ≤ 1000) (h : ∀ t k, Q (.int (vs.length : Int) t) { s with toks := k }) : wpAny (model prog w) A (call (.builtin "len") [.ref D]) Q E s := by
  have hl := PySem.IsL.isList (n := n) (N _ hm).1
  refine len_list hl (by simp; lia) ?_
  have := h (s.toks + 1) (s.toks + 1 + 1)
  simpa using this
theorem rv_append {D : Addr} {vs : List Value} {n : Nat} {v : Value} {gl : Obj → Led} {Q : Value → Shared → Prop} (F : Fr h₀ L s.heap m) (N : News h₀ L s.heap news) (U : UpdF D (listOf vs.toArray n) news gl) (hfit : vs.length ≤ 1000)
    (h : ∀ h', Fr h₀ L h' m → News h₀ L h' (gl (listOf (vs ++ [v]).toArray (n + 1))) → Q .none { s with heap := h' }) : wpAny (model prog w) A (call (.builtin "list.append") [.ref D, v]) Q E s := by
  obtain ⟨pl, pr, rfl, hg, a1, a2⟩ := U.split
  have z := N (D, listOf vs.toArray n) (List.mem_append.mpr (.inr (.head _)))
  refine append_at (hsz := by rw [List.size_toArray, sizeLine_eq]; lia) z.1 fun h₅ hs₅ hD₅ => ?_
  refine h h₅ (F.change hs₅ z.2.1 z.2.2) (hg _ ▸ news_set N a1 a2 hs₅ ?_)
  rw [hD₅]
  simp
end
end Mine
end
section
open PySem PySem.W PyProof.Rows PySem.Calls PySem.Spec
set_option maxRecDepth 100000
namespace Mine
noncomputable def ConvSpec (K : Params → Frag) (p : Program) (w : World) : Prop := ∀ (self : Addr) (x : Str) (t : Tok) (b : Bool), clean x = true → x.length ≤ 4096 →
  CallOk K p w 83 [.ref self, .str x t] [(Str.ofString "name", .bool b)] (fun _ => True) [] 4 40 (Gives (fun _ => .str x t))
abbrev Kv := Str × Str
abbrev HIt := Addr × Kv
noncomputable abbrev hvals (its : List HIt) : List Value := its.map fun q => Value.ref q.1
noncomputable def KvAt (h : Heap) (a : Addr) (p : Kv) : Prop := ∃ t u, h.get? a = some (tup2 [.str p.1 t, .str p.2 u])
noncomputable def HAt (h : Heap) (its : List HIt) : Prop := ∀ q ∈ its, KvAt h q.1 q.2
theorem KvAt.keeps {h h' : Heap} {a : Addr} {p : Kv} (x : KvAt h a p) (k : ∀ b o, h.get? b = some o → h'.get? b = some o) : KvAt h' a p := let ⟨t, u, e⟩ := x; ⟨t, u, k _ _ e⟩
theorem HAt.keeps {h h' : Heap} {its : List HIt} (x : HAt h its) (k : ∀ b o, h.get? b = some o → h'.get? b = some o) : HAt h' its := fun q hq => (x q hq).keeps k
theorem KvAt.down {h g h₀ : Heap} {L : Addr} {pre : List (Addr × Obj)} {a : Addr} {p : Kv} (x : KvAt h a p) (hg : ∀ b o, h.get? b = some o → b ∉ pre.map (·.1) → g.get? b = some o) (N : News h₀ L h pre) (hc : ∀ q ∈ pre, q.2.cls ≠ .type "tuple") : KvAt g a p := by
  obtain ⟨t, u, e⟩ := x
  refine ⟨t, u, hg _ _ e (fun hm => ?_)⟩
  obtain ⟨q, hq, rfl⟩ := List.mem_map.mp hm
  have e2 := (N q hq).1
  rw [e] at e2
  exact hc q hq (congrArg Obj.cls (Option.some.inj e2)).symm
theorem HAt.down {h g h₀ : Heap} {L : Addr} {pre : List (Addr × Obj)} {its : List HIt} (x : HAt h its) (hg : ∀ b o, h.get? b = some o → b ∉ pre.map (·.1) → g.get? b = some o) (N : News h₀ L h pre) (hc : ∀ q ∈ pre, q.2.cls ≠ .type "tuple") : HAt g its := fun q hq => (x q hq).down hg N hc
/-- a table's own dict -/
noncomputable abbrev hdD (w : World) (l : Addr) (t : Tok) : Obj := dictOf [{ hash := PyData.keyHash w.params (Str.ofString "_headers"), key := .str (Str.ofString "_headers") t, val := .ref l }] 1
/-- a table: its list, the object itself, its dict -/
noncomputable abbrev hdL (w : World) (x d l : Addr) (t : Tok) (its : List HIt) (n : Nat) : Led := (l, listOf (hvals its).toArray n) :: [(x, instObj 182 d), (d, hdD w l t)]
theorem hd_ne_tuple {w : World} {x d l : Addr} {t : Tok} {its : List HIt} {n : Nat} : ∀ q ∈ hdL w x d l t its n, q.2.cls ≠ .type "tuple" := fun q hq => by
  rcases List.mem_cons.mp hq with rfl | hq
  · exact fun e => absurd (Value.type.inj e) (by decide)
  rcases List.mem_cons.mp hq with rfl | hq
  · exact fun e => Value.noConfusion e
  rcases List.mem_cons.mp hq with rfl | hq
  · exact fun e => absurd (Value.type.inj e) (by decide)
  · cases hq
noncomputable def LenHSpec (K : Params → Frag) (p : Program) (w : World) : Prop := ∀ (x d l : Addr) (t : Tok) (its : List HIt) (n : Nat), its.length ≤ 100 →
  CallOk K p w 90 [.ref x] [] (fun _ => True) (hdL w x d l t its n) 3 20 (fun _ v n₁ => (∃ u, v = .int its.length u) ∧ n₁ = hdL w x d l t its n)
noncomputable abbrev valsS (ts : List (Str × Tok)) : List Value := ts.map fun q => Value.str q.1 q.2
noncomputable def getAllF (name : Str) (its : List HIt) : List Str := (its.filter fun q => decide (Txt.lower q.2.1 = Txt.lower name)).map (·.2.2)
noncomputable def hdLens (its : List HIt) : Prop := its.length ≤ 100 ∧ ∀ q ∈ its, q.2.1.length ≤ 1000 ∧ q.2.2.length ≤ 1000
/-- these stand, and none of these is turned -/
noncomputable def Stand (h : Heap) (bs as : List Addr) : Prop := ∀ b ∈ bs, (∃ o, h.get? b = some o) ∧ b ∉ as
noncomputable def GetAllSpec (K : Params → Frag) (p : Program) (w : World) : Prop := ∀ (x d l : Addr) (t t2 : Tok) (its : List HIt) (n : Nat) (name : Str) (bs : List Addr), hdLens its → name.length ≤ 1000 → clean (Txt.lower name) = true →
  CallOk K p w 121 [.ref x, .str name t2] [] (fun h => HAt h its ∧ Stand h bs [l, x, d]) (hdL w x d l t its n) 9 90 (fun _ v n₁ => ∃ y : { y : Addr × List (Str × Tok) // y.2.map (·.1) = getAllF name its ∧ ∀ b ∈ bs, b ≠ y.1 }, v = .ref y.1.1 ∧ n₁ = [(y.1.1, listOf (valsS y.1.2).toArray (valsS y.1.2).length)] ++ hdL w x d l t its n)
section
variable {prog : Program} {w : World} {A : Around} {E : Value → Shared → Prop} {s : Shared}
theorem r_kv0 {value slice : Expr} {a : Addr} {p : Kv} {u : Tok} {Q : Value → Shared → Prop} (x : KvAt s.heap a p) (h : ∀ t, Q (.str p.1 t) s)
    (hs : subscripted slice false (.ref a) (.int 0 u) = operate [.ref a, .int 0 u] (getItem (.ref a) (.int 0 u)) := by with_unfolding_all rfl) :
    wpAny (model prog w) A (subscriptTail value slice (.ref a) (.int 0 u)) Q E s := by
  obtain ⟨t, v, e⟩ := x
  exact item_tupleT (l := [.str p.1 t, .str p.2 v]) (j := 0) ⟨_, e, rfl, _, rfl⟩ (by decide) (by decide) rfl rfl (h t) hs
theorem r_kv1 {value slice : Expr} {a : Addr} {p : Kv} {u : Tok} {Q : Value → Shared → Prop} (x : KvAt s.heap a p) (h : ∀ t, Q (.str p.2 t) s)
    (hs : subscripted slice false (.ref a) (.int 1 u) = operate [.ref a, .int 1 u] (getItem (.ref a) (.int 1 u)) := by with_unfolding_all rfl) :
    wpAny (model prog w) A (subscriptTail value slice (.ref a) (.int 1 u)) Q E s := by
  obtain ⟨t, v, e⟩ := x
  exact item_tupleT (l := [.str p.1 t, .str p.2 v]) (j := 1) ⟨_, e, rfl, _, rfl⟩ (by decide) (by decide) rfl rfl (h v) hs
end
theorem val_at {α : Type} {f : α → Value} {its : List α} {i : Nat} {v : Value} (hv : (its.map f).toArray[i]? = some v) : ∃ q, its[i]? = some q ∧ v = f q := by
  rw [List.getElem?_toArray, List.getElem?_map] at hv
  obtain ⟨q, h1, h2⟩ := Option.map_eq_some_iff.mp hv
  exact ⟨q, h1, h2.symm⟩
theorem take_at {α : Type} {its : List α} {i : Nat} {q : α} (h : its[i]? = some q) : its.take (i + 1) = its.take i ++ [q] := by rw [List.take_add_one, h]; rfl
theorem getAllF_at {name : Str} {its : List HIt} {i : Nat} {q : HIt} (h : its[i]? = some q) : getAllF name (its.take (i + 1)) = getAllF name (its.take i) ++ (if Txt.lower q.2.1 = Txt.lower name then [q.2.2] else []) := by
  unfold getAllF
  rw [take_at h, List.filter_append, List.map_append]
  congr 1
  by_cases hb : Txt.lower q.2.1 = Txt.lower name
  · rw [if_pos hb]; simp [hb]
  · rw [if_neg hb]; simp [hb]
theorem valsS_snoc {ts : List (Str × Tok)} {x : Str} {t : Tok} : valsS (ts ++ [(x, t)]) = valsS ts ++ [.str x t] := by simp [valsS]
theorem sub_skip {a b : Addr × Obj} {l : Led} : ∀ p ∈ a :: l, p ∈ a :: b :: l := fun p hp => by
  rcases List.mem_cons.mp hp with rfl | hp
  · exact .head _
  · exact .tail _ (.tail _ hp)
noncomputable def optV : Option Str → Tok → Value
  | some x, t => .str x t
  | none, _ => .none
noncomputable def getF (name : Str) (its : List HIt) : Option Str := (its.find? fun q => Txt.lower q.2.1 == Txt.lower name).map (·.2.2)
noncomputable def delF (name : Str) (its : List HIt) : List HIt := its.filter fun q => Txt.lower q.2.1 != Txt.lower name
noncomputable def GetSpec (K : Params → Frag) (p : Program) (w : World) : Prop := ∀ (x d l : Addr) (t t2 : Tok) (its : List HIt) (n : Nat) (name : Str), hdLens its → name.length ≤ 1000 → clean (Txt.lower name) = true →
  CallOk K p w 129 [.ref x, .str name t2] [] (fun h => HAt h its) (hdL w x d l t its n) 9 90 (fun _ v n₁ => ∃ y : Tok, v = optV (getF name its) y ∧ n₁ = [] ++ hdL w x d l t its n)
noncomputable def ContainsSpec (K : Params → Frag) (p : Program) (w : World) : Prop := ∀ (x d l : Addr) (t t2 : Tok) (its : List HIt) (n : Nat) (name : Str), hdLens its → name.length ≤ 1000 → clean (Txt.lower name) = true →
  CallOk K p w 116 [.ref x, .str name t2] [] (fun h => HAt h its) (hdL w x d l t its n) 12 120 (fun _ v n₁ => v = .bool (getF name its).isSome ∧ n₁ = hdL w x d l t its n)
noncomputable def DelSpec (K : Params → Frag) (p : Program) (w : World) : Prop := ∀ (x d l : Addr) (t t2 : Tok) (its : List HIt) (n : Nat) (name : Str), hdLens its → name.length ≤ 1000 → clean (Txt.lower name) = true →
  CallOk K p w 102 [.ref x, .str name t2] [] (fun h => HAt h its) (hdL w x d l t its n) 9 90 (fun _ v n₁ => ∃ n' : Nat, v = .none ∧ n₁ = [] ++ hdL w x d l t (delF name its) n')
noncomputable def ItemsSpec (K : Params → Frag) (p : Program) (w : World) : Prop := ∀ (x d l : Addr) (t : Tok) (its : List HIt) (n : Nat), hdLens its →
  CallOk K p w 146 [.ref x] [] (fun h => HAt h its) (hdL w x d l t its n) 9 90 (fun _ v n₁ => ∃ y : Addr × Nat, v = .ref y.1 ∧ n₁ = [(y.1, listOf (hvals its).toArray y.2)] ++ hdL w x d l t its n)
theorem delF_at {name : Str} {its : List HIt} {i : Nat} {q : HIt} (h : its[i]? = some q) : delF name (its.take (i + 1)) = delF name (its.take i) ++ (if (Txt.lower q.2.1 != Txt.lower name) = true then [q] else []) := by
  unfold delF
  rw [take_at h, List.filter_append]
  congr 1
  cases hb : (Txt.lower q.2.1 != Txt.lower name) <;> simp [hb]
theorem hvals_snoc {its : List HIt} {q : HIt} : hvals (its ++ [q]) = hvals its ++ [.ref q.1] := by simp [hvals]
theorem delF_len {name : Str} {its : List HIt} : (delF name its).length ≤ its.length := List.length_filter_le _ _
theorem find_at {name : Str} {its : List HIt} {i : Nat} {q : HIt} (h : its[i]? = some q) (h0 : ((its.take i).find? fun q => Txt.lower q.2.1 == Txt.lower name) = none) (hb : (Txt.lower q.2.1 == Txt.lower name) = true) : getF name its = some q.2.2 := by
  unfold getF
  have e : its = its.take (i + 1) ++ its.drop (i + 1) := (List.take_append_drop _ _).symm
  rw [e, List.find?_append, take_at h, List.find?_append, h0]
  simp [hb]
theorem find_not {name : Str} {its : List HIt} {i : Nat} {q : HIt} (h : its[i]? = some q) (h0 : ((its.take i).find? fun q => Txt.lower q.2.1 == Txt.lower name) = none) (hb : (Txt.lower q.2.1 == Txt.lower name) = false) : ((its.take (i + 1)).find? fun q => Txt.lower q.2.1 == Txt.lower name) = none := by
  rw [take_at h, List.find?_append, h0]
  simp [hb]
theorem hd_ne_liter {w : World} {x d l : Addr} {t : Tok} {its : List HIt} {n : Nat} : ∀ q ∈ hdL w x d l t its n, q.2.cls ≠ .type "list_iterator" := fun q hq => by
  rcases List.mem_cons.mp hq with rfl | hq
  · exact fun e => absurd (Value.type.inj e) (by decide)
  rcases List.mem_cons.mp hq with rfl | hq
  · exact fun e => Value.noConfusion e
  rcases List.mem_cons.mp hq with rfl | hq
  · exact fun e => absurd (Value.type.inj e) (by decide)
  · cases hq
theorem hd_ne {w : World} {h₀ h : Heap} {L x d l : Addr} {t : Tok} {its : List HIt} {n : Nat} (N : News h₀ L h (hdL w x d l t its n)) : (@Ne Nat x l) ∧ (@Ne Nat d l) ∧ (@Ne Nat x d) :=
  ⟨News.ne N (.tail _ (.head _)) (.head _) (fun e => Value.noConfusion e), News.ne N (.tail _ (.tail _ (.head _))) (.head _) (fun e => absurd (Value.type.inj e) (by decide)), News.ne N (.tail _ (.head _)) (.tail _ (.tail _ (.head _))) (fun e => Value.noConfusion e)⟩
theorem val_at' {α : Type} {f : α → Value} {its : List α} {i : Nat} {v : Value} (hv : (its.map f)[i]? = some v) : ∃ q, its[i]? = some q ∧ v = f q := by
  rw [List.getElem?_map] at hv
  obtain ⟨q, h1, h2⟩ := Option.map_eq_some_iff.mp hv
  exact ⟨q, h1, h2.symm⟩
noncomputable def HStored (w : World) (x d l : Addr) (t : Tok) (its : List HIt) (a b : Str) : Value → Led → Prop := fun v n₁ =>
  ∃ y : Addr × Tok × Tok × Nat, v = .none ∧ n₁ = [(y.1, tup2 [.str a y.2.1, .str b y.2.2.1])] ++ hdL w x d l t (its ++ [(y.1, (a, b))]) y.2.2.2
noncomputable def SetSpec (K : Params → Frag) (p : Program) (w : World) : Prop := ∀ (x d l : Addr) (t t2 t3 : Tok) (its : List HIt) (n : Nat) (name val : Str), hdLens its → name.length ≤ 1000 → val.length ≤ 1000 → clean name = true → clean (Txt.lower name) = true → clean val = true →
  CallOk K p w 97 [.ref x, .str name t2, .str val t3] [] (fun h => HAt h its) (hdL w x d l t its n) 12 120 (fun _ => HStored w x d l t (delF name its) name val)
noncomputable def AddSpec (K : Params → Frag) (p : Program) (w : World) : Prop := ∀ (x d l : Addr) (t t2 t3 : Tok) (its : List HIt) (n : Nat) (name val : Str), hdLens its → name.length ≤ 1000 → val.length ≤ 1000 → clean name = true → clean val = true →
  CallOk K p w 179 [.ref x, .str name t2, .str val t3] [] (fun h => HAt h its) (hdL w x d l t its n) 12 120 (fun _ => HStored w x d l t its name val)
theorem hdLens_del {name : Str} {its : List HIt} (h : hdLens its) : hdLens (delF name its) := ⟨Nat.le_trans delF_len h.1, fun q hq => h.2 q (List.mem_filter.mp hq).1⟩
theorem tab_empty {prog : Program} {w : World} {h : Heap} {D : Addr} (lo : (D == sysModules) = false) (ho : h.get? D = some { cls := .type "dict", data := .dict #[] }) : TabAt (PySem.strKind prog w) PyData.str h D [] := by
  refine ⟨lo, [], ?_, .nil⟩
  refine Heap.dictOf_iff.mpr ⟨_, ho, ?_⟩
  obtain ⟨o, ho, hd⟩ := Heap.dictOf_iff.mp (Heap.DictOf.new (knd := PySem.strKind prog w) h)
  rw [Heap.get?_push_size _ rfl] at ho
  exact (Option.some.inj ho) ▸ hd
theorem r_delItem {M : Model} {A : Around} {E : Value → Shared → Prop} {s : Shared} {K : Frag} {x C L f : Addr} {h₀ : Heap} {m : Str → Option Value} {ox : Obj} {od : Option Obj} {i : Value} {Q : Unit → Shared → Prop} (F : Fr h₀ L s.heap m) (X₀ : K.In h₀) (I : InstAt s.heap x ox C od) (hq : noSeq K C = true) (hs : findIn K (.ref C) "__delitem__" = some (some (.ref f))) (hf : isFn K (.ref f) = true)
    (h : wpAny M A (call (.ref f) [.ref x, i]) (fun _ s' => Q () s') E s) : wpAny M A (delItem (.ref x) i) Q E s := by
  have X := X₀.keeps F.keep
  unfold delItem sequenceKey
  refine wpAny_holding (wpAny_bind (wpAny_bind (I.type.here ?_)))
  refine wpAny_bind ((anyM_none X hq).here ?_)
  rw [if_pos (show (!false) = true from rfl)]
  exact wpAny_pure (wpAny_bind (special_fn X I hs (beq_iff_eq.mp hf) (wpAny_mono h (fun _ _ z => wpAny_pure z) fun _ _ z => z)))
theorem join_one {a b : Str} : Txt.join a [b] = b := rfl
end Mine
end
section
open PySem PySem.W PyProof.Rows PySem.Calls PySem.Spec
set_option maxRecDepth 100000
namespace Mine
abbrev TI := List (Int × Tok)
abbrev TS := List (Str × Tok)
noncomputable abbrev valsN (ts : TI) : List Value := ts.map fun q => Value.int q.1 q.2
noncomputable def IntsAt (h : Heap) (a : Addr) (ns : List Int) : Prop := ∃ (ts : TI) (k : Nat), ts.map (·.1) = ns ∧ h.get? a = some (listOf (valsN ts).toArray k)
noncomputable def StrsAt (h : Heap) (a : Addr) (ss : List Str) : Prop := ∃ (ts : TS) (k : Nat), ts.map (·.1) = ss ∧ h.get? a = some (listOf (valsS ts).toArray k)
theorem IntsAt.keeps {h h' : Heap} {a : Addr} {ns : List Int} (x : IntsAt h a ns) (k : ∀ b o, h.get? b = some o → h'.get? b = some o) : IntsAt h' a ns := let ⟨t, n, e, g⟩ := x; ⟨t, n, e, k _ _ g⟩
theorem StrsAt.keeps {h h' : Heap} {a : Addr} {ns : List Str} (x : StrsAt h a ns) (k : ∀ b o, h.get? b = some o → h'.get? b = some o) : StrsAt h' a ns := let ⟨t, n, e, g⟩ := x; ⟨t, n, e, k _ _ g⟩
noncomputable def overStep (over : List Int) (x : Int) : List Int := over ++ [((x.fmod 400).fdiv 10).fmod over.length]
noncomputable def overF (ns : List Int) : List Int := ns.foldl overStep [0]
theorem overF_take {ns : List Int} {i : Nat} {x : Int} (h : ns[i]? = some x) : overF (ns.take (i + 1)) = overStep (overF (ns.take i)) x := by
  unfold overF
  rw [take_at h, List.foldl_append]
  rfl
theorem foldl_len : ∀ (l : List Int) (a : List Int), (l.foldl overStep a).length = a.length + l.length
  | [], a => rfl
  | x :: l, a => by
    rw [List.foldl_cons, foldl_len l]
    simp [overStep]; lia
theorem overF_len (ns : List Int) : (overF ns).length = ns.length + 1 := by unfold overF; rw [foldl_len]; simp; lia
noncomputable def OverSpec (K : Params → Frag) (p : Program) (w : World) : Prop := ∀ (P : Addr) (ns : List Int), ns.length ≤ 100 →
  CallOk K p w 329 [.ref P] [] (fun h => IntsAt h P ns) [] 3 40 (fun _ v n₁ => ∃ y : Addr × { ts : TI // ts.map (·.1) = overF ns } × Nat, v = .ref y.1 ∧ n₁ = [(y.1, listOf (valsN y.2.1.1).toArray y.2.2)])
theorem valsN_snoc {ts : TI} {x : Int} {t : Tok} : valsN (ts ++ [(x, t)]) = valsN ts ++ [.int x t] := by simp [valsN]
section
variable {prog : Program} {w : World} {A : Around} {E : Value → Shared → Prop} {s : Shared} {h₀ : Heap} {L : Addr} {m : Str → Option Value} {news : Led}
theorem r_intAt {value slice : Expr} {a : Addr} {ns : List Int} {k : Int} {u : Tok} {Q : Value → Shared → Prop} (x : IntsAt s.heap a ns) (h0 : 0 ≤ k) (h1 : k < ns.length) (hfit : ns.length ≤ 1000) (h : ∀ t, Q (.int (ns.getD k.toNat 0) t) s)
    (hs : subscripted slice false (.ref a) (.int k u) = operate [.ref a, .int k u] (getItem (.ref a) (.int k u)) := by with_unfolding_all rfl) :
    wpAny (model prog w) A (subscriptTail value slice (.ref a) (.int k u)) Q E s := by
  obtain ⟨ts, n, rfl, e⟩ := x
  have hl := PySem.IsL.isList (n := n) e
  rw [List.length_map] at h1 hfit
  have hk : k.toNat < ts.length := by lia
  refine tail_any hl.typeIs slot_list_getitem.lookup (wpAny_getItem_list hl h0 (by lia) (x := .int (ts[k.toNat]).1 (ts[k.toNat]).2) ?_ ?_) hs
  · simp [hk]
  · have := h (ts[k.toNat]).2
    simpa [List.getD_eq_getElem?_getD, hk] using this
theorem r_strL {value slice : Expr} {a : Addr} {ts : TS} {n : Nat} {k : Int} {u : Tok} {Q : Value → Shared → Prop} (N : News h₀ L s.heap news) (hm : (a, listOf (valsS ts).toArray n) ∈ news) (h0 : 0 ≤ k) (h1 : k < ts.length) (hfit : ts.length ≤ 1000) (h : ∀ t, Q (.str ((ts.map (·.1)).getD k.toNat ⟨#[]⟩) t) s)
    (hs : subscripted slice false (.ref a) (.int k u) = operate [.ref a, .int k u] (getItem (.ref a) (.int k u)) := by with_unfolding_all rfl) :
    wpAny (model prog w) A (subscriptTail value slice (.ref a) (.int k u)) Q E s := by
  have hl := PySem.IsL.isList (n := n) (N _ hm).1
  have hk : k.toNat < ts.length := by lia
  refine tail_any hl.typeIs slot_list_getitem.lookup (wpAny_getItem_list hl h0 (by lia) (x := .str (ts[k.toNat]).1 (ts[k.toNat]).2) ?_ ?_) hs
  · simp [hk]
  · have := h (ts[k.toNat]).2
    simpa [List.getD_eq_getElem?_getD, hk] using this
theorem rb_len {a : Addr} {ns : List Int} {Q : Value → Shared → Prop} (x : IntsAt s.heap a ns) (hfit : ns.length ≤ 1000) (h : ∀ t k, Q (.int (ns.length : Int) t) { s with toks := k }) : wpAny (model prog w) A (call (.builtin "len") [.ref a]) Q E s := by
  obtain ⟨ts, n, rfl, e⟩ := x
  have hl := PySem.IsL.isList (n := n) e
  rw [List.length_map] at hfit h
  refine len_list hl (by simp; lia) ?_
  have := h (s.toks + 1) (s.toks + 1 + 1)
  simpa using this
end
noncomputable def OverOk (over : List Int) : Prop := 1 ≤ over.length ∧ over.length ≤ 8 ∧ ∀ k, 1 ≤ k → k < over.length → 0 ≤ over.getD k 0 ∧ over.getD k 0 < (k : Int)
noncomputable def letterS (k : Nat) : Str := Txt.item (Str.ofString "-abcdefg") (k : Int)
theorem letter_ok : ∀ k, 1 ≤ k → k ≤ 7 → Txt.startswith (letterS k) (Str.ofString "/") = false ∧ (letterS k).length = 1 := by
  intro k h1 h2
  rcases k with _ | _ | _ | _ | _ | _ | _ | _ | k
  · lia
  all_goals first | lia | exact ⟨by decide +kernel, by decide +kernel⟩
noncomputable def placesStep (over : List Int) (ps : List Str) (j : Nat) : List Str := ps ++ [joinS (ps.getD (over.getD (j + 1) 0).toNat ⟨#[]⟩) (letterS (j + 1))]
noncomputable def placesN (over : List Int) (n : Nat) : List Str := (List.range n).foldl (placesStep over) [Str.ofString "/"]
noncomputable def placesF (over : List Int) : List Str := placesN over (over.length - 1)
theorem placesN_succ {over : List Int} {n : Nat} : placesN over (n + 1) = placesStep over (placesN over n) n := by
  unfold placesN
  rw [List.range_succ, List.foldl_append]
  rfl
theorem str_len (x y : Str) : (x ++ y).length = x.length + y.length := by
  show (x.cps ++ y.cps).size = _
  rw [Array.size_append]; rfl
theorem joinS_len (x y : Str) : x.length ≤ (joinS x y).length ∧ (joinS x y).length ≤ x.length + 1 + y.length := by
  have h1 : (Str.ofString "/").length = 1 := by decide +kernel
  unfold joinS
  split
  · rw [str_len]; lia
  · rw [str_len, str_len]; lia
noncomputable def PlacesSpec (K : Params → Frag) (p : Program) (w : World) : Prop := ∀ (O : Addr) (over : List Int), OverOk over →
  CallOk K p w 336 [.ref O] [] (fun h => IntsAt h O over) [] 9 80 (fun _ v n₁ => ∃ y : Addr × { ts : TS // ts.map (·.1) = placesF over } × Nat, v = .ref y.1 ∧ n₁ = [(y.1, listOf (valsS y.2.1.1).toArray y.2.2)])
theorem slash_len : 1 ≤ (Str.ofString "/").length ∧ (Str.ofString "/").length ≤ 2 * 0 + 1 := by decide +kernel
/-- all places there can be with the first n letters -/
noncomputable def pl : Nat → List Str
  | 0 => [Str.ofString "/"]
  | n + 1 => pl n ++ (pl n).map fun p => joinS p (letterS (n + 1))
theorem placesN_pl {over : List Int} : ∀ (n : Nat), (∀ k, 1 ≤ k → k < over.length → 0 ≤ over.getD k 0 ∧ over.getD k 0 < (k : Int)) → n + 1 ≤ over.length → (placesN over n).length = n + 1 ∧ ∀ p ∈ placesN over n, p ∈ pl n
  | 0, _, _ => ⟨rfl, fun p hp => hp⟩
  | n + 1, h, hn => by
    obtain ⟨h1, h2⟩ := placesN_pl n h (by lia)
    rw [placesN_succ]
    unfold placesStep
    refine ⟨by rw [List.length_append, h1]; rfl, fun p hp => ?_⟩
    unfold pl
    rcases List.mem_append.mp hp with hp | hp
    · exact List.mem_append.mpr (.inl (h2 p hp))
    · rw [List.mem_singleton.mp hp]
      refine List.mem_append.mpr (.inr (List.mem_map.mpr ⟨_, h2 _ ?_, rfl⟩))
      have hk := h (n + 1) (by lia) (by lia)
      have hlt : (over.getD (n + 1) 0).toNat < (placesN over n).length := by rw [h1]; lia
      rw [List.getD_eq_getElem?_getD, List.getElem?_eq_getElem hlt]
      exact List.getElem_mem hlt
theorem pl_mono : ∀ {m n : Nat}, m ≤ n → ∀ p ∈ pl m, p ∈ pl n
  | m, 0, h, p, hp => by
    have : m = 0 := by lia
    subst this; exact hp
  | m, n + 1, h, p, hp => by
    by_cases e : m = n + 1
    · subst e; exact hp
    · exact List.mem_append.mpr (.inl (pl_mono (by lia) p hp))
noncomputable def plGood (p : Str) : Bool := clean p && clean (Txt.upper p) && clean (Txt.lower p) && (Txt.lower (Txt.upper p) == p) && (Txt.lower p == p) && decide (p.length ≤ 16) && decide ((Txt.upper p).length ≤ 16) && ((p == Str.ofString "/") || ((pl 7).contains (dirS p) && decide ((dirS p).length < p.length)))
theorem pl_good : (pl 7).all plGood = true := by decide +kernel
end Mine
end
section
open PySem PySem.W PyProof.Rows PySem.Calls PySem.Spec
set_option maxRecDepth 100000
namespace Mine
theorem pl_facts {p : Str} (h : p ∈ pl 7) : clean p = true ∧ clean (Txt.upper p) = true ∧ clean (Txt.lower p) = true ∧ Txt.lower (Txt.upper p) = p ∧ Txt.lower p = p ∧ p.length ≤ 16 ∧ (Txt.upper p).length ≤ 16 ∧ (p ≠ Str.ofString "/" → dirS p ∈ pl 7 ∧ (dirS p).length < p.length) := by
  have := List.all_eq_true.mp pl_good p h
  unfold plGood at this
  simp only [Bool.and_eq_true, decide_eq_true_eq, Bool.or_eq_true, beq_iff_eq, List.contains_iff_mem] at this
  obtain ⟨⟨⟨⟨⟨⟨⟨h1, h2⟩, h3⟩, h4⟩, h5⟩, h6⟩, h7⟩, h8⟩ := this
  exact ⟨h1, h2, h3, h4, h5, h6, h7, fun hn => h8.resolve_left hn⟩
noncomputable def headF (its : List HIt) : Nat → Str → Str
  | 0, p => p
  | f + 1, p => if (p != Str.ofString "/") = true ∧ (getF p its).isSome = false then headF its f (dirS p) else p
noncomputable def HeadSpec (K : Params → Frag) (p : Program) (w : World) : Prop := ∀ (x d l : Addr) (t t2 : Tok) (its : List HIt) (n : Nat) (place : Str), hdLens its → place ∈ pl 7 →
  CallOk K p w 348 [.ref x, .str place t2] [] (fun h => HAt h its) (hdL w x d l t its n) 20 200 (fun _ v n₁ => ∃ y : Tok, v = .str (headF its 16 place) y ∧ n₁ = [] ++ hdL w x d l t its n)
theorem ltL {D : Addr} : ∀ {tl : Led}, AllLt D tl → ∀ p ∈ tl, p.1 ≠ D
  | [], _, p, h => nomatch h
  | q :: r, x, p, h => by
    rcases List.mem_cons.mp h with rfl | h
    · exact Nat.ne_of_lt x.1
    · exact ltL x.2 p h
theorem ltL' {D : Addr} : ∀ {tl : Led}, AllLt D tl → ∀ p ∈ tl, @LT.lt Nat _ p.1 D
  | [], _, p, h => nomatch h
  | q :: r, x, p, h => by
    rcases List.mem_cons.mp h with rfl | h
    · exact x.1
    · exact ltL' x.2 p h
noncomputable def Above (D : Addr) (tl : Led) : Prop := ∀ p ∈ tl, @LT.lt Nat _ D p.1
theorem gtL {D : Addr} {tl : Led} (h : Above D tl) : ∀ p ∈ tl, p.1 ≠ D := fun p hp e => Nat.lt_irrefl _ (show @LT.lt Nat _ p.1 p.1 from (by have := h p hp; rw [← e] at this; exact this))
noncomputable def Off (D : Addr) (tl : Led) : Prop := ∀ p ∈ tl, @Ne Nat p.1 D
theorem off1L {D : Addr} : ∀ {tl : Led}, LCg.Off1 D tl → ∀ p ∈ tl, p.1 ≠ D
  | [], _, p, h => nomatch h
  | q :: r, x, p, h => by
    rcases List.mem_cons.mp h with rfl | h
    · exact x.1
    · exact off1L x.2 p h
theorem offL {D : Addr} {tl : Led} (h : Off D tl) : ∀ p ∈ tl, p.1 ≠ D := h
abbrev FIt := Addr × (Int × Int)
noncomputable abbrev fvals (its : List FIt) : List Value := its.map fun q => Value.ref q.1
noncomputable def FIn (tl : Led) (its : List FIt) : Prop := ∀ q ∈ its, ∃ t u, (q.1, tup2 [.int q.2.1 t, .int q.2.2 u]) ∈ tl
noncomputable def bitsF (n : Nat) (c : Int) : List Int := (List.range n).map fun k => (c.fdiv (2 ^ k)).fmod 2
noncomputable def belowStep (over kept b : List Int) (k : Nat) : List Int := if kept.getD k 0 = 1 then b.set (over.getD k 0).toNat (b.getD (over.getD k 0).toNat 0 + b.getD k 0) else b
noncomputable def belowN (over kept loads : List Int) (n : Nat) : List Int := (List.range n).foldl (fun b j => belowStep over kept b (over.length - 1 - j)) loads
noncomputable def maxL (l : List Int) : Int := l.foldl max (l.headD 0)
theorem foldl_max : ∀ (l : List Int) (z : Int), z ≤ l.foldl max z ∧ (∀ a ∈ l, a ≤ l.foldl max z) ∧ (l.foldl max z = z ∨ l.foldl max z ∈ l)
  | [], z => ⟨Int.le_refl _, (fun _ h => nomatch h), .inl rfl⟩
  | b :: l, z => by
    obtain ⟨h1, h2, h3⟩ := foldl_max l (max z b)
    rw [List.foldl_cons]
    refine ⟨Int.le_trans (Int.le_max_left z b) h1, fun a ha => ?_, ?_⟩
    · rcases List.mem_cons.mp ha with rfl | ha
      · exact Int.le_trans (Int.le_max_right z a) h1
      · exact h2 a ha
    · rcases h3 with h3 | h3
      · rw [h3]
        rcases Int.le_total z b with h | h
        · right; rw [Int.max_eq_right h]; exact .head _
        · left; exact Int.max_eq_left h
      · exact .inr (.tail _ h3)
theorem maxL_eq {l : List Int} {M : Int} (h1 : M ∈ l) (h2 : ∀ a ∈ l, a ≤ M) : maxL l = M := by
  unfold maxL
  obtain ⟨g1, g2, g3⟩ := foldl_max l (l.headD 0)
  refine Int.le_antisymm ?_ (g2 M h1)
  rcases g3 with g3 | g3
  · rw [g3]
    cases l with
    | nil => cases h1
    | cons a r => exact h2 a (.head _)
  · exact h2 _ g3
noncomputable def keptF (n : Nat) (c : Int) : List Int := 1 :: bitsF n c
noncomputable def zeros (l : List Int) : Nat := l.count 0
noncomputable def fewStep (over loads : List Int) (room : Int) (acc : List (Int × Int)) (c : Nat) : List (Int × Int) :=
  if maxL (belowN over (keptF (over.length - 1) c) loads (over.length - 1)) ≤ room then acc ++ [((zeros (keptF (over.length - 1) c) : Int), (belowN over (keptF (over.length - 1) c) loads (over.length - 1)).getD 0 0)] else acc
noncomputable def fewL (over loads : List Int) (room : Int) (n : Nat) : List (Int × Int) := (List.range n).foldl (fewStep over loads room) []
noncomputable def FewT (K : Params → Frag) (p : Program) (w : World) : Prop := ∀ (O P : Addr) (over loads : List Int) (room : Int) (t : Tok), OverOk over → loads.length = over.length →
  CallOk K p w 353 [.ref O, .ref P, .int room t] [] (fun h => IntsAt h O over ∧ IntsAt h P loads) [] 9 80 (fun _ _ _ => True)
end Mine
end
section
open PySem PySem.W PyProof.Rows PySem.Calls PySem.Spec
set_option maxRecDepth 100000
namespace Mine
section
variable {prog : Program} {w : World} {A : Around} {E : Value → Shared → Prop} {s : Shared} {h₀ : Heap} {L : Addr} {m : Str → Option Value} {news : Led}
theorem r_listAdd {a b : Addr} {v : Int} {t : Tok} {ts : TI} {n k : Nat} {Q : Value → Shared → Prop} (F : Fr h₀ L s.heap m) (N : News h₀ L s.heap news) (ha : (a, listOf #[Value.int v t] n) ∈ news) (hb : (b, listOf (valsN ts).toArray k) ∈ news) (hz : ts.length ≤ 1000)
    (h : ∀ D h', Fr h₀ L h' m → News h₀ L h' ((D, listOf (valsN ((v, t) :: ts)).toArray 0) :: news) → (∀ p ∈ news, p.1 < D) → Q (.ref D) { s with heap := h' }) : wpAny (model prog w) A (binaryOp .Add (.ref a) (.ref b)) Q E s :=
  add_lists (vs := [Value.int v t]) F N (PySem.IsL.isList (n := n) (N _ ha).1) (PySem.IsL.isList (n := k) (N _ hb).1) (fun h' F' N' => h _ h' F' N' fun p hp => Heap.lt_size (N p hp).1) (by rw [sizeLine_eq, List.length_map, List.length_singleton]; lia)
theorem r_listOf {a : Addr} {ns : List Int} {Q : Value → Shared → Prop} (F : Fr h₀ L s.heap m) (N : News h₀ L s.heap news) (x : IntsAt s.heap a ns) (hz : ns.length ≤ 1000)
    (h : ∀ D h' c (ts : TI), ts.map (·.1) = ns → Fr h₀ L h' m → News h₀ L h' ((D, listOf (valsN ts).toArray c) :: news) → (∀ p ∈ news, p.1 < D) → Q (.ref D) { s with heap := h' }) : wpAny (model prog w) A (call (.type "list") [.ref a]) Q E s := by
  obtain ⟨ts, n, rfl, e⟩ := x
  rw [List.length_map] at hz
  refine call_list_seq a (T := "list") (.inl rfl) e rfl rfl (fun h' c' hk hD => ?_) (by rw [List.size_toArray, List.length_map, sizeLine_eq]; lia)
  refine h _ h' c' ts rfl (F.keeps hk) (fun p hp => ?_) fun p hp => Heap.lt_size (N p hp).1
  rcases List.mem_cons.mp hp with rfl | hp
  · exact ⟨hD, Ne.symm (Nat.ne_of_lt F.ns.lt), next_is_new F⟩
  · exact ⟨hk _ _ (N p hp).1, (N p hp).2⟩
theorem intsAre_valsN (ts : TI) : IntsAre (valsN ts) (ts.map (·.1)) := by
  induction ts with
  | nil => exact .nil
  | cons q r ih => exact .cons _ _ ih
end
section
variable {prog : Program} {w : World} {A : Around} {E : Value → Shared → Prop} {s : Shared} {h₀ : Heap} {L : Addr} {m : Str → Option Value} {news : Led}
theorem r_intL {value slice : Expr} {a : Addr} {ts : TI} {n : Nat} {k : Int} {u : Tok} {Q : Value → Shared → Prop} (N : News h₀ L s.heap news) (hm : (a, listOf (valsN ts).toArray n) ∈ news) (h0 : 0 ≤ k) (h1 : k < ts.length) (hfit : ts.length ≤ 1000) (h : ∀ t, Q (.int ((ts.map (·.1)).getD k.toNat 0) t) s)
    (hs : subscripted slice false (.ref a) (.int k u) = operate [.ref a, .int k u] (getItem (.ref a) (.int k u)) := by with_unfolding_all rfl) :
    wpAny (model prog w) A (subscriptTail value slice (.ref a) (.int k u)) Q E s :=
  r_intAt ⟨ts, n, rfl, (N _ hm).1⟩ h0 (by rw [List.length_map]; exact h1) (by rw [List.length_map]; exact hfit) h hs
theorem r_setInt {D : Addr} {ts : TI} {n : Nat} {k v : Int} {t u : Tok} {gl : Obj → Led} {Q : Unit → Shared → Prop} (F : Fr h₀ L s.heap m) (N : News h₀ L s.heap news) (U : UpdF D (listOf (valsN ts).toArray n) news gl) (h0 : 0 ≤ k) (h1 : k < ts.length) (hfit : ts.length ≤ 1000)
    (h : ∀ h', Fr h₀ L h' m → News h₀ L h' (gl (listOf (valsN (ts.set k.toNat (v, u))).toArray n)) → Q () { s with heap := h' }) : wpAny (model prog w) A (setItem (.ref D) (.int k t) (.int v u)) Q E s := by
  obtain ⟨pl, pr, rfl, hg, a, b⟩ := U.split
  have z := N (D, listOf (valsN ts).toArray n) (List.mem_append.mpr (.inr (.head _)))
  refine ki_setAt z.1 h0 (by lia) (by simpa using h1) (h _ (F.change (Heap.SameBut.update ..) z.2.1 z.2.2) (hg _ ▸ ki_turn _ N a b ?_ ?_))
  · apply Array.toList_inj.mp
    simp [List.map_set]
  · simp
theorem r_maxI {D : Addr} {ts : TI} {n : Nat} {Q : Value → Shared → Prop} (hh : A.handled = none) (F : Fr h₀ L s.heap m) (N : News h₀ L s.heap news) (hm : (D, listOf (valsN ts).toArray n) ∈ news) (hne : 0 < ts.length)
    (h : ∀ h' (t : Tok) tk, Fr h₀ L h' m → News h₀ L h' news → Q (.int (maxL (ts.map (·.1))) t) { s with heap := h', toks := tk }) : wpAny (model prog w) A (call (.builtin "max") [.ref D]) Q E s :=
  max_list_N hh F N (PySem.IsL.isList (n := n) (N _ hm).1) (intsAre_valsN ts) (by rw [List.length_map]; exact hne) (fun h' M t tk F' N' a b => maxL_eq a b ▸ h h' t tk F' N')
theorem r_count0 {D : Addr} {ts : TI} {n : Nat} {u : Tok} {Q : Value → Shared → Prop} (N : News h₀ L s.heap news) (hm : (D, listOf (valsN ts).toArray n) ∈ news)
    (h : ∀ t k, Q (.int ((zeros (ts.map (·.1)) : Nat) : Int) t) { s with toks := k }) : wpAny (model prog w) A (call (.builtin "list.count") [.ref D, .int 0 u]) Q E s :=
  count_list_ints (PySem.IsL.isList (n := n) (N _ hm).1) (intsAre_valsN ts) (h _ _)
end
theorem kl_of {h₀ h : Heap} {L D : Addr} {x y : Addr × Obj} {q : Int × Tok} {ts : TI} {n : Nat} {r : Led} (_ : News h₀ L h (x :: y :: (D, listOf (valsN (q :: ts)).toArray n) :: r)) : (q :: ts).length = ts.length + 1 := rfl
theorem belowN_succ {over kept loads : List Int} {j : Nat} : belowN over kept loads (j + 1) = belowStep over kept (belowN over kept loads j) (over.length - 1 - j) := by
  unfold belowN
  rw [List.range_succ, List.foldl_append]
  rfl
theorem kept_of {ts : TI} {n : Nat} {c : Int} {q : Tok} (h : ts.map (·.1) = bitsF n c) : List.map (fun x : Int × Tok => x.1) ((1, q) :: ts) = keptF n c := by rw [List.map_cons, h]; rfl
theorem below_pos {over kept loads : List Int} {bs : TI} {j kN : Nat} {u : Tok} (hk : kN = over.length - 1 - j) (hbs : bs.map (·.1) = belowN over kept loads j) (h1 : kept.getD ((kN : Int)).toNat 0 = 1) :
    List.map (fun x : Int × Tok => x.1) (bs.set (over.getD ((kN : Int)).toNat 0).toNat ((bs.map (·.1)).getD (over.getD ((kN : Int)).toNat 0).toNat 0 + (bs.map (·.1)).getD ((kN : Int)).toNat 0, u)) = belowN over kept loads (j + 1) := by
  rw [belowN_succ, ← hk, List.map_set, ← hbs]
  rw [Int.toNat_natCast] at h1 ⊢
  unfold belowStep
  rw [if_pos h1]
theorem below_neg {over kept loads : List Int} {bs : TI} {j kN : Nat} (hk : kN = over.length - 1 - j) (hbs : bs.map (·.1) = belowN over kept loads j) (h1 : kept.getD ((kN : Int)).toNat 0 ≠ 1) : bs.map (·.1) = belowN over kept loads (j + 1) := by
  rw [belowN_succ, ← hk, ← hbs]
  rw [Int.toNat_natCast] at h1
  unfold belowStep
  rw [if_neg h1]
theorem fewL_succ {over loads : List Int} {room : Int} {n : Nat} : fewL over loads room (n + 1) = fewStep over loads room (fewL over loads room n) n := by
  unfold fewL
  rw [List.range_succ, List.foldl_append]
  rfl
theorem fewL_len {over loads : List Int} {room : Int} : ∀ n, (fewL over loads room n).length ≤ n
  | 0 => Nat.le_refl _
  | n + 1 => by
    rw [fewL_succ]
    unfold fewStep
    split
    · rw [List.length_append]; exact Nat.succ_le_succ (fewL_len n)
    · exact Nat.le_succ_of_le (fewL_len n)
theorem fewL_pos {over loads : List Int} {room : Int} {i : Nat} (h : maxL (belowN over (keptF (over.length - 1) i) loads (over.length - 1)) ≤ room) : fewL over loads room (i + 1) = fewL over loads room i ++ [((zeros (keptF (over.length - 1) i) : Int), (belowN over (keptF (over.length - 1) i) loads (over.length - 1)).getD 0 0)] := by
  rw [fewL_succ]; unfold fewStep; rw [if_pos h]
theorem fewL_neg {over loads : List Int} {room : Int} {i : Nat} (h : ¬ maxL (belowN over (keptF (over.length - 1) i) loads (over.length - 1)) ≤ room) : fewL over loads room (i + 1) = fewL over loads room i := by
  rw [fewL_succ]; unfold fewStep; rw [if_neg h]
theorem fvals_snoc {its : List FIt} {D : Addr} {q : Int × Int} : fvals (its ++ [(D, q)]) = fvals its ++ [.ref D] := by simp [fvals]
theorem FIn.snoc {tl : Led} {its : List FIt} {D : Addr} {a b : Int} {t u : Tok} (h : FIn tl its) : FIn ((D, tup2 [.int a t, .int b u]) :: tl) (its ++ [(D, (a, b))]) := fun q hq => by
  rcases List.mem_append.mp hq with hq | hq
  · obtain ⟨t, u, e⟩ := h q hq
    exact ⟨t, u, .tail _ e⟩
  · rw [List.mem_singleton.mp hq]
    exact ⟨t, u, .head _⟩
theorem Above.cons {G : Addr} {tl : Led} {p : Addr × Obj} (h : Above G tl) (hp : @LT.lt Nat _ G p.1) : Above G (p :: tl) := fun q hq => by
  rcases List.mem_cons.mp hq with rfl | hq
  · exact hp
  · exact h q hq
theorem sub_few {a b c d e I G C : Addr × Obj} {tl : Led} : ∀ p ∈ I :: G :: C :: a :: tl, p ∈ a :: b :: c :: d :: e :: I :: G :: C :: tl := fun p hp => by
  simp only [List.mem_cons] at hp ⊢
  rcases hp with h | h | h | h | h <;> simp [h]
theorem list_not_ri : (Value.type "list") ≠ .type "range_iterator" := fun e => absurd (Value.type.inj e) (by decide)
theorem tup_not_ri : (Value.type "tuple") ≠ .type "range_iterator" := fun e => absurd (Value.type.inj e) (by decide)
theorem few_off {G C : Addr} {vs : Array Value} {kk : Nat} {oc : Obj} {ov : Option Value} {tl : Led} {K : Led} (hoc : oc.data = .cell ov) (hcl : ∀ p ∈ tl, p.2.cls = .type "tuple") : ∀ p ∈ (G, listOf vs kk) :: (C, oc) :: tl, (p.2.cls ≠ .type "range_iterator" ∨ ¬ ∃ vs, p.2.data = .fields vs) ∨ p ∈ K := fun p hp => by
  rcases List.mem_cons.mp hp with rfl | hp
  · exact .inl (.inl list_not_ri)
  rcases List.mem_cons.mp hp with rfl | hp
  · refine .inl (.inr ?_)
    rintro ⟨vs, e⟩
    dsimp only at e
    rw [hoc] at e
    cases e
  · exact .inl (.inl (by rw [hcl p hp]; exact tup_not_ri))
theorem below_off {B : Addr} {vs vs' : Array Value} {kc kc' : Nat} {r : Led} : ∀ p ∈ (B, listOf vs kc) :: r, (p.2.cls ≠ .type "range_iterator" ∨ ¬ ∃ vs, p.2.data = .fields vs) ∨ p ∈ (B, listOf vs' kc') :: r := fun p hp => by
  rcases List.mem_cons.mp hp with rfl | hp
  · exact .inl (.inl list_not_ri)
  · exact .inr (.tail _ hp)
theorem pow_small {n : Nat} (h1 : 1 ≤ n) (h : n ≤ 8) : (2 : Int) ^ ((n : Int) - 1).toNat = ((2 ^ (n - 1) : Nat) : Int) ∧ 2 ^ (n - 1) ≤ 128 := by
  have e : ((n : Int) - 1).toNat = n - 1 := by lia
  rw [e]
  refine ⟨by push_cast; rfl, ?_⟩
  exact Nat.le_trans (Nat.pow_le_pow_right (by decide) (show n - 1 ≤ 7 by lia)) (by decide)
theorem rsmall_nat {N : Nat} (h : N ≤ 1000) : Builtin.Range.small 0 (N : Int) 1 = true := rsmall1 (by decide) (by decide) (by lia) (by lia)
theorem rsize_nat {N : Nat} : Builtin.Range.rangeSize 0 (N : Int) 1 = (N : Int) := by rw [rsize1]; lia
end Mine
end
section
open PySem PySem.W PyProof.Rows PySem.Calls PySem.Spec
set_option maxRecDepth 100000
namespace Mine
abbrev P2 := Int × Int
noncomputable def ltI (p q : P2) : Bool := if p.1 = q.1 then (if p.2 = q.2 then false else decide (p.2 < q.2)) else decide (p.1 < q.1)
noncomputable def TwoAt (h : Heap) (a : Addr) (p : P2) : Prop := ∃ t u, h.get? a = some (tup2 [.int p.1 t, .int p.2 u])
theorem TwoAt.keeps {h h' : Heap} {a : Addr} {p : P2} (x : TwoAt h a p) (k : ∀ b o, h.get? b = some o → h'.get? b = some o) : TwoAt h' a p := let ⟨t, u, e⟩ := x; ⟨t, u, k _ _ e⟩
section
variable {prog : Program} {w : World} {A : Around} {E : Value → Shared → Prop} {s : Shared}
theorem two_lt_tree {a b : Addr} {p q : P2} {P : PySem.Fin → Shared → Prop} (ha : TwoAt s.heap a p) (hb : TwoAt s.heap b q) (h : P (.done (.ret (.bool (ltI p q)))) s) :
    wpAny (model prog w) A (Builtin.«tuple.__lt__» ⟨[.ref a, .ref b], []⟩) P E s := by
  obtain ⟨t, u, ha⟩ := ha
  obtain ⟨t', u', hb⟩ := hb
  have hTb : s.TypeIs (.ref b) "tuple" := ⟨_, hb, rfl⟩
  show wpAny _ _ (isInstance (.ref b) (.type "tuple") >>= _) _ _ s
  refine wpAny_bind (wpAny_isInstance hTb isSubtype_tuple_tuple ?_)
  simp only [Bool.not_true, Bool.false_eq_true, if_false]
  refine wpAny_bind (wpAny_tupleItemsOf ha rfl ?_)
  refine wpAny_bind (wpAny_tupleItemsOf hb rfl ?_)
  simp only [List.zip_cons_cons, List.zip_nil_right]
  refine wpAny_bind ?_
  rw [List.forIn_cons]
  refine wpAny_bind (wpAny_bind (wpAny_eqBool_int ?_))
  by_cases e1 : p.1 = q.1
  · have e1' : (p.1 == q.1) = true := beq_iff_eq.mpr e1
    rw [e1']
    simp only [Bool.not_true, Bool.false_eq_true, if_false]
    refine wpAny_pure ?_
    dsimp only
    rw [List.forIn_cons]
    refine wpAny_bind (wpAny_bind (wpAny_eqBool_int ?_))
    by_cases e2 : p.2 = q.2
    · rw [show (p.2 == q.2) = true from beq_iff_eq.mpr e2]
      simp only [Bool.not_true, Bool.false_eq_true, if_false]
      refine wpAny_pure ?_
      dsimp only
      rw [List.forIn_nil]
      refine wpAny_pure ?_
      have : ltI p q = false := by simp [ltI, e1, e2]
      rw [this] at h
      exact wpAny_pure h
    · rw [show (p.2 == q.2) = false from beq_eq_false_iff_ne.mpr e2]
      simp only [Bool.not_false, if_true]
      refine wpAny_bind (wpAny_rule (wpAny_bind ?_))
      have : ltI p q = decide (p.2 < q.2) := by simp [ltI, e1, e2]
      rw [this] at h
      show wpAny _ _ (compareOp .Lt (.int p.2 u) (.int q.2 u')) _ _ s
      refine lt_int ?_
      exact wpAny_bind (wpAny_pure (wpAny_pure (wpAny_pure (wpAny_pure h))))
  · have e1' : (p.1 == q.1) = false := beq_eq_false_iff_ne.mpr e1
    rw [e1']
    simp only [Bool.not_false, if_true]
    refine wpAny_bind (wpAny_rule (wpAny_bind ?_))
    have : ltI p q = decide (p.1 < q.1) := by simp [ltI, e1]
    rw [this] at h
    show wpAny _ _ (compareOp .Lt (.int p.1 t) (.int q.1 t')) _ _ s
    refine lt_int ?_
    exact wpAny_bind (wpAny_pure (wpAny_pure (wpAny_pure (wpAny_pure h))))
theorem two_lt {a b : Addr} {p q : P2} {Q : Value → Shared → Prop} (hu : A.units < cLine) (ha : TwoAt s.heap a p) (hb : TwoAt s.heap b q) (h : Q (.bool (ltI p q)) s) :
    wpAny (model prog w) A (richCompare .Lt (.ref a) (.ref b)) Q E s := by
  have hTa : s.TypeIs (.ref a) "tuple" := let ⟨_, _, e⟩ := ha; ⟨_, e, rfl⟩
  have hTb : s.TypeIs (.ref b) "tuple" := let ⟨_, _, e⟩ := hb; ⟨_, e, rfl⟩
  refine richCompare_meets_room (S := fun _ R s => (TwoAt s.heap a p ∧ TwoAt s.heap b q) ∧ R (.ok (.ret (.bool (ltI p q)))) s) hTa hTb slot_tuple_lt entry_tuple_lt (args_tuple_lt _ _) (fun _ _ _ _ _ hs => two_lt_tree hs.1.1 hs.1.2 hs.2) ⟨⟨ha, hb⟩, ?_⟩ hu
  exact ⟨fun e => Value.noConfusion e, h⟩
end
/-- the place of the least so far -/
noncomputable def bestAt (lt : Nat → Nat → Bool) : Nat → Nat
  | 0 => 0
  | k + 1 => if lt (k + 1) (bestAt lt k) = true then k + 1 else bestAt lt k
section
variable {prog : Program} {w : World} {A : Around} {E : Value → Shared → Prop} {s : Shared} {I G S : Addr} {vs : List Value} {lt : Nat → Nat → Bool} {R : Result → Shared → Prop} {Hold : Heap → Prop}
/-- one turn and all that follow; j items are past, the best stands in the slot -/
theorem min_turns (hh : A.handled = none) (hG : G ≠ I) (hS1 : S ≠ I) (hS2 : S ≠ G) (hkeep : ∀ h h', Hold h → (∀ b o, b ≠ I → b ≠ S → h.get? b = some o → h'.get? b = some o) → Hold h')
    (hlt : ∀ (i j : Nat) (x y : Value) (s : Shared) (Q E : _ → Shared → Prop), Hold s.heap → vs[i]? = some x → vs[j]? = some y → Q (.bool (lt i j)) s → wpAny (model prog w) A.in1 (richCompare .Lt x y) Q E s)
    (s₀ : Shared) (hR : ∀ v h tk, vs[bestAt lt (vs.length - 1)]? = some v → (∀ b o, b ≠ I → b ≠ S → s₀.heap.get? b = some o → h.get? b = some o) → R (.ok (.ret v)) { s₀ with heap := h, toks := tk }) :
    ∀ (left j : Nat) (h : Heap) (tk c : Nat) (best : Value), left + (j + 1) = vs.length → h.IsListIter I G (j + 1) → h.IsList G vs.toArray → vs[bestAt lt j]? = some best → Hold h →
      (∀ b o, b ≠ I → b ≠ S → s₀.heap.get? b = some o → h.get? b = some o) → h.get? S = some { cls := .type "list", dict := none, data := .seq #[best, best] c, slots := #[] } →
      codeAny (model prog w) A (.builtin "min.loop" ⟨[.ref I, .none, .ref S], []⟩) R { s₀ with heap := h, toks := tk } := by
  have nm : (toString "min" ++ toString ".loop" : String) = "min.loop" := by decide
  have hsz : vs.toArray.size = vs.length := List.size_toArray
  intro left
  induction left with
  | zero =>
    intro j h tk c best e1 hit hl hb hH hk hS
    refine codeAny_builtin F.entry_min_loop ?_
    rw [Around.under_plainId F.plain_min_loop _]
    show wpAny _ A.in1 (seqItems? (.ref S) >>= _) _ _ _
    refine wpAny_bind (wpAny_seqItems hS rfl ?_)
    show wpAny _ A.in1 (tryCatch (pyNext (.ref I)) _ >>= _) _ _ _
    refine wpAny_bind (wpAny_tryCatch (wpAny_pyNext_list_end hh hit hl (by rw [Array.getElem?_eq_none_iff, hsz]; lia) fun h' he => ?_))
    have hS' := he S _ hS1 hS
    show wpAny _ A.in1 (updateSeq S (fun _ => #[]) >>= _) _ _ _
    refine wpAny_bind (wpAny_updateSeq hS' rfl (wpAny_bind (wpAny_letGo (wpAny_pure ?_))))
    exact hR best _ tk (by rw [show vs.length - 1 = j by lia]; exact hb) fun b o b1 b2 eo => (Heap.get?_update_other _ _ (Ne.symm b2)).trans (he b o b1 (hk b o b1 b2 eo))
  | succ left ih =>
    intro j h tk c best e1 hit hl hb hH hk hS
    have hjl : j + 1 < vs.length := by lia
    have hx : vs[j + 1]? = some vs[j + 1] := List.getElem?_eq_getElem hjl
    refine codeAny_builtin F.entry_min_loop ?_
    rw [Around.under_plainId F.plain_min_loop _]
    show wpAny _ A.in1 (seqItems? (.ref S) >>= _) _ _ _
    refine wpAny_bind (wpAny_seqItems hS rfl ?_)
    show wpAny _ A.in1 (tryCatch (pyNext (.ref I)) _ >>= _) _ _ _
    refine wpAny_bind (wpAny_tryCatch (wpAny_pyNext_list_item hit hl (x := vs[j + 1]) (by simpa using hx) fun h' hit' hs' => ?_))
    have hS' := hs'.extBut S _ hS1 hS
    have hk' : ∀ b o, b ≠ I → b ≠ S → h.get? b = some o → h'.get? b = some o := fun b o b1 _ eo => hs'.extBut b o b1 eo
    have hl' : h'.IsList G vs.toArray := hl.extBut hs'.extBut hG
    show wpAny _ A.in1 (tryCatch (holding [vs[j + 1], vs[j + 1]] (richCompare .Lt vs[j + 1] best >>= _)) _ >>= _) _ _ _
    refine wpAny_bind (wpAny_tryCatch (wpAny_holding (wpAny_bind (hlt (j + 1) (bestAt lt j) _ _ _ _ _ (hkeep _ _ hH hk') hx hb ?_))))
    refine wpAny_bind (wpAny_holding (wpAny_truthy_bool ?_))
    refine wpAny_bind (wpAny_letGo (wpAny_pure ?_))
    cases hv : lt (j + 1) (bestAt lt j) with
    | true =>
      simp only [if_true]
      refine wpAny_bind (wpAny_updateSeq hS' rfl (wpAny_bind (wpAny_letGo ?_)))
      rw [nm]
      have up : ∀ b o, b ≠ S → h'.get? b = some o → (h'.update S (Obj.mapSeq fun _ => #[vs[j + 1], vs[j + 1]])).get? b = some o := fun b o b2 eo => (Heap.get?_update_other _ _ (Ne.symm b2)).trans eo
      refine wpAny_pure ⟨plainId_quiet F.plain_min_loop _, ih (j + 1) _ tk _ vs[j + 1] (by lia) (hit'.at fun o => up _ o (Ne.symm hS1)) (hl'.at fun o => up _ o (Ne.symm hS2)) ?_ (hkeep _ _ hH fun b o b1 b2 eo => up b o b2 (hk' b o b1 b2 eo)) (fun b o b1 b2 eo => up b o b2 (hk' b o b1 b2 (hk b o b1 b2 eo))) (Heap.get?_update_self _ hS' rfl)⟩
      unfold bestAt
      rw [if_pos hv]
      exact hx
    | false =>
      simp only [Bool.false_eq_true, if_false]
      refine wpAny_bind (wpAny_letGo ?_)
      rw [nm]
      refine wpAny_pure ⟨plainId_quiet F.plain_min_loop _, ih (j + 1) _ tk c best (by lia) hit' hl' ?_ (hkeep _ _ hH hk') (fun b o b1 b2 eo => hk' b o b1 b2 (hk b o b1 b2 eo)) hS'⟩
      unfold bestAt
      rw [if_neg (by rw [hv]; exact Bool.false_ne_true)]
      exact hb
end
noncomputable def p0 : FIt := (0, (0, 0))
noncomputable def bestL (l : List P2) : Nat := bestAt (fun i j => ltI (l.getD i (0, 0)) (l.getD j (0, 0))) (l.length - 1)
theorem bestAt_le (lt : Nat → Nat → Bool) : ∀ k, bestAt lt k ≤ k
  | 0 => Nat.le_refl _
  | k + 1 => by
    unfold bestAt
    split
    · exact Nat.le_refl _
    · exact Nat.le_succ_of_le (bestAt_le lt k)
section
variable {prog : Program} {w : World} {A : Around} {E : Value → Shared → Prop} {s : Shared} {G : Addr}
theorem call_min {vs : List Value} {lt : Nat → Nat → Bool} {Hold : Heap → Prop} {Q : Value → Shared → Prop} (hh : A.handled = none) (hl : s.heap.IsList G vs.toArray) (hne : 0 < vs.length) (hH : Hold s.heap)
    (hkeep : ∀ I S h h', s.heap.get? I = none → s.heap.get? S = none → Hold h → (∀ b o, b ≠ I → b ≠ S → h.get? b = some o → h'.get? b = some o) → Hold h')
    (hlt : ∀ (i j : Nat) (x y : Value) (s : Shared) (Q E : _ → Shared → Prop), Hold s.heap → vs[i]? = some x → vs[j]? = some y → Q (.bool (lt i j)) s → wpAny (model prog w) A.in1 (richCompare .Lt x y) Q E s)
    (h : ∀ v h' tk, vs[bestAt lt (vs.length - 1)]? = some v → (∀ b o, s.heap.get? b = some o → h'.get? b = some o) → Q v { s with heap := h', toks := tk }) : wpAny (model prog w) A (call (.builtin "min") [.ref G]) Q E s := by
  have nm : (toString "min" ++ toString ".loop" : String) = "min.loop" := by decide
  have hG : G < s.heap.objs.size := by obtain ⟨_, e, _⟩ := hl; exact Heap.lt_size e
  have fresh : ∀ a, s.heap.objs.size ≤ a → s.heap.get? a = none := fun a ha => by
    cases e : s.heap.get? a with
    | none => rfl
    | some o' => exact absurd (Heap.lt_size e) (Nat.not_lt.mpr ha)
  refine call_function_tree F.kind_min F.plain_min F.entry_min (F.args_min1 _) ?_
  show wpAny _ A.in1 (Builtin.Builtins.bindParams "min" ["key", "default"] 0 ⟨[], []⟩ >>= _) _ _ s
  refine wpAny_bind (wpAny_of_eq (show Builtin.Builtins.bindParams "min" ["key", "default"] 0 ⟨[], []⟩ = pure [none, none] from rfl) ?_)
  refine wpAny_bind (wpAny_pure ?_)
  refine wpAny_bind (wpAny_pyIter_list hl ?_)
  refine wpAny_bind (wpAny_newObj_type ?_)
  rw [nm]
  generalize hH1 : s.heap.push { cls := .type "list_iterator", data := .fields #[.ref G, .int 0 0] } = H1
  have hS : H1.objs.size = s.heap.objs.size + 1 := by rw [← hH1, Heap.size_push]
  have up1 : ∀ b o, s.heap.get? b = some o → H1.get? b = some o := fun b o e => hH1 ▸ Heap.get?_push_of_some _ e
  have up2 : ∀ b o, H1.get? b = some o → (H1.push { cls := .type "list", dict := none, data := .seq ([] : List Value).toArray }).get? b = some o := fun b o e => Heap.get?_push_of_some _ e
  have hit : H1.IsListIter s.heap.objs.size G 0 := ⟨_, hH1 ▸ Heap.get?_push_size _ rfl, rfl, rfl⟩
  have nI : (G : Nat) ≠ s.heap.objs.size := Nat.ne_of_lt hG
  have nS1 : (H1.objs.size : Nat) ≠ s.heap.objs.size := by rw [hS]; exact Nat.succ_ne_self _
  have nS2 : (H1.objs.size : Nat) ≠ G := fun e => by
    have h2 : @LT.lt Nat _ G s.heap.objs.size := hG
    rw [← e, hS] at h2
    exact absurd h2 (Nat.not_lt.mpr (Nat.le_succ _))
  have fI := fresh s.heap.objs.size (Nat.le_refl _)
  have fS := fresh H1.objs.size (by rw [hS]; exact Nat.le_succ _)
  have hx : vs[0]? = some vs[0] := List.getElem?_eq_getElem hne
  refine wpAny_pure ⟨plainId_quiet F.plain_min_loop _, codeAny_builtin F.entry_min_loop ?_⟩
  rw [Around.under_plainId F.plain_min_loop _]
  show wpAny _ A.in1 (seqItems? (.ref H1.objs.size) >>= _) _ _ _
  refine wpAny_bind (wpAny_seqItems (Heap.get?_push_size _ rfl) rfl ?_)
  show wpAny _ A.in1 (tryCatch (pyNext (.ref s.heap.objs.size)) _ >>= _) _ _ _
  refine wpAny_bind (wpAny_tryCatch (wpAny_pyNext_list_item (hit.at fun o => up2 _ o) (hl.at fun o e => up2 _ o (up1 _ o e)) (x := vs[0]) (by simp) fun h' hit' hs' => ?_))
  have hS' := hs'.extBut _ _ nS1 (Heap.get?_push_size H1 rfl)
  show wpAny _ A.in1 (updateSeq H1.objs.size (fun _ => #[vs[0], vs[0]]) >>= _) _ _ _
  refine wpAny_bind (wpAny_updateSeq hS' rfl ?_)
  rw [nm]
  have up3 : ∀ b o, b ≠ H1.objs.size → h'.get? b = some o → (h'.update H1.objs.size (Obj.mapSeq fun _ => #[vs[0], vs[0]])).get? b = some o := fun b o b2 eo => (Heap.get?_update_other _ _ (Ne.symm b2)).trans eo
  have all : ∀ b o, b ≠ s.heap.objs.size → b ≠ H1.objs.size → s.heap.get? b = some o → (h'.update H1.objs.size (Obj.mapSeq fun _ => #[vs[0], vs[0]])).get? b = some o := fun b o b1 b2 eo => up3 b o b2 (hs'.extBut b o b1 (up2 b o (up1 b o eo)))
  refine wpAny_pure ⟨plainId_quiet F.plain_min_loop _, min_turns (s₀ := s) hh nI nS1 nS2 (fun h h' => hkeep _ _ h h' fI fS) hlt (fun v h'' tk hv hk => ?_) (vs.length - 1) 0 _ _ _ vs[0] (by lia) (hit'.at fun o => up3 _ o (Ne.symm nS1)) ((hl.at fun o e => hs'.extBut _ o nI (up2 _ o (up1 _ o e))).at fun o => up3 _ o (Ne.symm nS2)) hx (hkeep _ _ _ _ fI fS hH all) all (Heap.get?_update_self _ hS' rfl)⟩
  exact h v h'' tk hv fun b o e => hk b o (fun q => by rw [q, fI] at e; cases e) (fun q => by rw [q, fS] at e; cases e) e
end
section
variable {prog : Program} {w : World} {A : Around} {E : Value → Shared → Prop} {s : Shared} {h₀ : Heap} {L G : Addr} {m : Str → Option Value} {news tl : Led}
theorem r_minF {its : List FIt} {kk : Nat} {Q : Value → Shared → Prop} (hh : A.handled = none) (hu : A.in1.units < cLine) (F : Fr h₀ L s.heap m) (N : News h₀ L s.heap news) (hm : (G, listOf (fvals its).toArray kk) ∈ news) (htl : ∀ p ∈ tl, p ∈ news) (hf : FIn tl its) (hne : 0 < its.length)
    (h : ∀ h' tk q, its[bestL (its.map (·.2))]? = some q → Fr h₀ L h' m → News h₀ L h' news → Q (.ref q.1) { s with heap := h', toks := tk }) : wpAny (model prog w) A (call (.builtin "min") [.ref G]) Q E s := by
  have hold : ∀ q ∈ its, TwoAt s.heap q.1 q.2 := fun q hq => by
    obtain ⟨t, u, e⟩ := hf q hq
    exact ⟨t, u, (N _ (htl _ e)).1⟩
  refine call_min (lt := fun i j => ltI ((its.map (·.2)).getD i (0, 0)) ((its.map (·.2)).getD j (0, 0))) (Hold := fun h => ∀ q ∈ its, TwoAt h q.1 q.2) hh (PySem.IsL.isList (n := kk) (N _ hm).1) (by rw [List.length_map]; exact hne) hold ?_ ?_ ?_
  · intro I S h h' hI hS hH hk q hq
    obtain ⟨t, u, e⟩ := hH q hq
    obtain ⟨t0, u0, e0⟩ := hold q hq
    exact ⟨t, u, hk _ _ (fun q' => by rw [q', hI] at e0; cases e0) (fun q' => by rw [q', hS] at e0; cases e0) e⟩
  · intro i j x y s Q E hH hx hy hq
    obtain ⟨qi, h1, rfl⟩ := val_at' hx
    obtain ⟨qj, h2, rfl⟩ := val_at' hy
    refine two_lt (p := qi.2) (q := qj.2) hu (hH _ (List.mem_of_getElem? h1)) (hH _ (List.mem_of_getElem? h2)) ?_
    have e1 : (its.map (·.2)).getD i (0, 0) = qi.2 := by rw [List.getD_eq_getElem?_getD, List.getElem?_map, h1]; rfl
    have e2 : (its.map (·.2)).getD j (0, 0) = qj.2 := by rw [List.getD_eq_getElem?_getD, List.getElem?_map, h2]; rfl
    rw [e1, e2] at hq
    exact hq
  · intro v h' tk hv hk
    obtain ⟨q, h1, rfl⟩ := val_at' hv
    refine h h' tk q ?_ (F.keeps hk) (N.grown hk)
    unfold bestL
    rw [List.length_map] at h1 ⊢
    exact h1
end
noncomputable def FewSpec (K : Params → Frag) (p : Program) (w : World) : Prop := ∀ (O P : Addr) (over loads : List Int) (room : Int) (t : Tok), OverOk over → loads.length = over.length → 0 < (fewL over loads room (2 ^ (over.length - 1))).length →
  CallOk K p w 353 [.ref O, .ref P, .int room t] [] (fun h => IntsAt h O over ∧ IntsAt h P loads) [] 9 80 (fun _ v n₁ => ∃ y : Addr × { q : P2 // (fewL over loads room (2 ^ (over.length - 1)))[bestL (fewL over loads room (2 ^ (over.length - 1)))]? = some q } × Tok × Tok, v = .ref y.1 ∧ n₁ = [(y.1, tup2 [.int y.2.1.1.1 y.2.2.1, .int y.2.1.1.2 y.2.2.2])])
end Mine
end
section
open PySem
namespace Mine
/-- p stands not after q -/
noncomputable def leP (p q : Pr) : Prop := ltP q p = false
theorem cps_ext {x y : Str} (h : x.cps.toList = y.cps.toList) : x = y := by
  cases x; cases y; congr 1; exact Array.toList_inj.mp h
theorem leP_iff {p q : Pr} : leP p q ↔ p.1 < q.1 ∨ (p.1 = q.1 ∧ (p.2 = q.2 ∨ ¬ q.2.cps.toList < p.2.cps.toList)) := by
  unfold leP ltP
  by_cases h1 : q.1 = p.1
  · rw [if_pos h1]
    by_cases h2 : q.2 = p.2
    · rw [if_pos h2]; simp [h1, h2]
    · rw [if_neg h2, decide_eq_false_iff_not]
      constructor
      · intro h; exact .inr ⟨h1.symm, .inr h⟩
      · rintro (h | ⟨_, h | h⟩)
        · lia
        · exact absurd h.symm h2
        · exact h
  · rw [if_neg h1, decide_eq_false_iff_not]
    constructor
    · intro h; left; lia
    · rintro (h | ⟨h, _⟩)
      · lia
      · exact absurd h.symm h1
theorem leP_refl (p : Pr) : leP p p := leP_iff.mpr (.inr ⟨rfl, .inl rfl⟩)
theorem leP_total (p q : Pr) : leP p q ∨ leP q p := by
  rw [leP_iff, leP_iff]
  rcases Int.lt_trichotomy p.1 q.1 with h | h | h
  · exact .inl (.inl h)
  · by_cases hl : q.2.cps.toList < p.2.cps.toList
    · exact .inr (.inr ⟨h.symm, .inr (List.lt_asymm hl)⟩)
    · exact .inl (.inr ⟨h, .inr hl⟩)
  · exact .inr (.inl h)
theorem leP_antisymm {p q : Pr} (h1 : leP p q) (h2 : leP q p) : p = q := by
  rw [leP_iff] at h1 h2
  rcases h1 with h1 | ⟨e, h1⟩
  · rcases h2 with h2 | ⟨e2, _⟩ <;> lia
  · rcases h2 with h2 | ⟨_, h2⟩
    · lia
    · refine Prod.ext e ?_
      rcases h1 with h1 | h1
      · exact h1
      · rcases h2 with h2 | h2
        · exact h2.symm
        · exact cps_ext (List.le_antisymm (List.not_lt.mp h1) (List.not_lt.mp h2))
theorem leP_trans {p q r : Pr} (h1 : leP p q) (h2 : leP q r) : leP p r := by
  rw [leP_iff] at h1 h2 ⊢
  rcases h1 with h1 | ⟨e1, h1⟩ <;> rcases h2 with h2 | ⟨e2, h2⟩
  · left; lia
  · left; lia
  · left; lia
  · refine .inr ⟨e1.trans e2, ?_⟩
    rcases h1 with h1 | h1 <;> rcases h2 with h2 | h2
    · left; exact h1.trans h2
    · right; rw [h1]; exact h2
    · right; rw [← h2]; exact h1
    · right; exact List.not_lt.mpr (List.le_trans (List.not_lt.mp h1) (List.not_lt.mp h2))
theorem leP_of_lt {p q : Pr} (h : ltP p q = true) : leP p q := by
  rcases leP_total p q with h1 | h1
  · exact h1
  · exact absurd (show ltP p q = false from h1) (by rw [h]; exact Bool.noConfusion)
end Mine
end
section
open PySem
namespace Mine
noncomputable abbrev at' (l : List It) (i : Nat) : Pr := (l.getD i it0).2
theorem at_set {l : List It} {i j : Nat} {x : It} (hi : i < l.length) : at' (l.set i x) j = if j = i then x.2 else at' l j := by
  unfold at'
  rw [List.getD_eq_getElem?_getD, List.getD_eq_getElem?_getD, List.getElem?_set]
  by_cases h : j = i
  · subst h; rw [if_pos rfl, if_pos hi, if_pos rfl]; rfl
  · rw [if_neg (fun e => h e.symm), if_neg h]
/-- all edges from start on that do not touch this place -/
noncomputable def EdgesBut (start hole : Nat) (l : List It) : Prop := ∀ i, 0 < i → i < l.length → start ≤ (i - 1) / 2 → i ≠ hole → (i - 1) / 2 ≠ hole → leP (at' l ((i - 1) / 2)) (at' l i)
noncomputable def Edges (start : Nat) (l : List It) : Prop := ∀ i, 0 < i → i < l.length → start ≤ (i - 1) / 2 → leP (at' l ((i - 1) / 2)) (at' l i)
inductive Anc (start : Nat) : Nat → Prop
  | here : Anc start start
  | up {p : Nat} : start < p → Anc start ((p - 1) / 2) → Anc start p
theorem Anc.le {start p : Nat} (h : Anc start p) : start ≤ p := by
  cases h with
  | here => exact Nat.le_refl _
  | up h _ => exact Nat.le_of_lt h
theorem Anc.par {start p : Nat} (h : Anc start p) (hp : start < p) : Anc start ((p - 1) / 2) := by
  cases h with
  | here => exact absurd hp (Nat.lt_irrefl _)
  | up _ h => exact h
theorem sd_heap {start : Nat} {x : It} : ∀ (f pos : Nat) (ps : List It), pos ≤ f → pos < ps.length → Anc start pos → EdgesBut start pos ps →
    (∀ c, 0 < c → c < ps.length → (c - 1) / 2 = pos → leP x.2 (at' ps c)) → (start < pos → ∀ c, 0 < c → c < ps.length → (c - 1) / 2 = pos → leP (at' ps ((pos - 1) / 2)) (at' ps c)) →
    Edges start (sd start x f pos ps)
  | 0, pos, ps, hf, hp, ha, he, h2, h3 => by
    unfold sd
    intro i i0 hi hs
    rw [List.length_set] at hi
    rw [at_set hp, at_set hp]
    have hp0 : pos = 0 := by lia
    by_cases e1 : i = pos
    · lia
    · rw [if_neg e1]
      by_cases e2 : (i - 1) / 2 = pos
      · rw [if_pos e2]; exact h2 i i0 hi e2
      · rw [if_neg e2]; exact he i i0 hi hs e1 e2
  | f + 1, pos, ps, hf, hp, ha, he, h2, h3 => by
    have stop : (start < pos → leP (at' ps ((pos - 1) / 2)) x.2) → Edges start (ps.set pos x) := fun hst i i0 hi hs => by
      rw [List.length_set] at hi
      rw [at_set hp, at_set hp]
      by_cases e1 : i = pos
      · subst e1
        rw [if_pos rfl, if_neg (by lia)]
        exact hst (by have := ha.le; lia)
      · rw [if_neg e1]
        by_cases e2 : (i - 1) / 2 = pos
        · rw [if_pos e2]; exact h2 i i0 hi e2
        · rw [if_neg e2]; exact he i i0 hi hs e1 e2
    unfold sd
    split
    · rename_i hsp
      split
      · rename_i hlt
        have hx := leP_of_lt hlt
        have hpar : (pos - 1) / 2 < pos := by lia
        have hpa := (ha.par hsp).le
        refine sd_heap f ((pos - 1) / 2) (ps.set pos (ps.getD ((pos - 1) / 2) it0)) (by lia) (by rw [List.length_set]; lia) (ha.par hsp) ?_ ?_ ?_
        · intro i i0 hi hs n1 n2
          rw [List.length_set] at hi
          rw [at_set hp, at_set hp]
          by_cases e1 : i = pos
          · subst e1; exact absurd rfl n2
          · rw [if_neg e1]
            by_cases e2 : (i - 1) / 2 = pos
            · rw [if_pos e2]; exact h3 hsp i i0 hi e2
            · rw [if_neg e2]; exact he i i0 hi hs e1 e2
        · intro c c0 hc hcp
          rw [List.length_set] at hc
          rw [at_set hp]
          by_cases e1 : c = pos
          · rw [if_pos e1]; exact hx
          · rw [if_neg e1]
            refine leP_trans hx ?_
            have := he c c0 hc (by lia) e1 (by lia)
            rw [hcp] at this
            exact this
        · intro hs2 c c0 hc hcp
          rw [List.length_set] at hc
          have hgg := he ((pos - 1) / 2) (by lia) (by lia) ((ha.par hsp).par hs2).le (by lia) (by lia)
          rw [at_set hp, at_set hp, if_neg (show ((pos - 1) / 2 - 1) / 2 ≠ pos by lia)]
          by_cases e1 : c = pos
          · rw [if_pos e1]; exact hgg
          · rw [if_neg e1]
            refine leP_trans hgg ?_
            have := he c c0 hc (by lia) e1 (by lia)
            rw [hcp] at this
            exact this
      · rename_i hlt
        refine stop fun _ => ?_
        show ltP x.2 _ = false
        cases hb : ltP x.2 (ps.getD ((pos - 1) / 2) it0).2 with
        | true => exact absurd hb hlt
        | false => rfl
    · rename_i hsp
      exact stop fun h => absurd h hsp
theorem Anc.child {start p c : Nat} (h : Anc start p) (hc : (c - 1) / 2 = p) (h0 : 0 < c) (hpc : p < c) : Anc start c := .up (Nat.lt_of_le_of_lt h.le hpc) (hc ▸ h)
/-- the hole sinks to a leaf -/
theorem suL_heap {start : Nat} : ∀ (f pos : Nat) (ps : List It), ps.length ≤ f + pos → pos < ps.length → Anc start pos → EdgesBut start pos ps →
    (start < pos → ∀ c, 0 < c → c < ps.length → (c - 1) / 2 = pos → leP (at' ps ((pos - 1) / 2)) (at' ps c)) →
    EdgesBut start (suL f pos ps).1 (suL f pos ps).2 ∧ Anc start (suL f pos ps).1 ∧ (suL f pos ps).2.length ≤ 2 * (suL f pos ps).1 + 1
  | 0, pos, ps, hf, hp, ha, he, h3 => by lia
  | f + 1, pos, ps, hf, hp, ha, he, h3 => by
    rw [suL_succ]
    split
    · rename_i h1
      have go : ∀ m s', m = 2 * pos + 1 ∨ m = 2 * pos + 2 → m < ps.length → (∀ c, 0 < c → c < ps.length → (c - 1) / 2 = pos → leP (at' ps m) (at' ps c)) → s' = suL f m (ps.set pos (ps.getD m it0)) →
          EdgesBut start s'.1 s'.2 ∧ Anc start s'.1 ∧ s'.2.length ≤ 2 * s'.1 + 1 := by
        rintro m s' hm hml hmin rfl
        have hmp : (m - 1) / 2 = pos := by lia
        have hm0 : 0 < m := by lia
        have hsp := ha.le
        refine suL_heap f m (ps.set pos (ps.getD m it0)) (by rw [List.length_set]; lia) (by rw [List.length_set]; exact hml) (ha.child hmp hm0 (by lia)) ?_ ?_
        · intro i i0 hi hs n1 n2
          rw [List.length_set] at hi
          rw [at_set hp, at_set hp]
          by_cases e1 : i = pos
          · subst e1
            rw [if_pos rfl, if_neg (by lia)]
            exact h3 (by lia) m hm0 hml hmp
          · rw [if_neg e1]
            by_cases e2 : (i - 1) / 2 = pos
            · rw [if_pos e2]; exact hmin i i0 hi e2
            · rw [if_neg e2]; exact he i i0 hi hs e1 e2
        · intro _ c c0 hc hcp
          rw [List.length_set] at hc
          rw [at_set hp, at_set hp, if_pos hmp, if_neg (by lia)]
          have := he c c0 hc (by lia) (by lia) (by lia)
          rw [hcp] at this
          exact this
      split
      · rename_i h2
        refine go (2 * pos + 2) _ (.inr rfl) h2.1 (fun c c0 hc hcp => ?_) rfl
        rcases (by lia : c = 2 * pos + 1 ∨ c = 2 * pos + 2) with rfl | rfl
        · exact h2.2
        · exact leP_refl _
      · rename_i h2
        refine go (2 * pos + 1) _ (.inl rfl) h1 (fun c c0 hc hcp => ?_) rfl
        rcases (by lia : c = 2 * pos + 1 ∨ c = 2 * pos + 2) with rfl | rfl
        · exact leP_refl _
        · refine leP_of_lt ?_
          cases hb : ltP (ps.getD (2 * pos + 1) it0).2 (ps.getD (2 * pos + 2) it0).2 with
          | true => rfl
          | false => exact absurd ⟨hc, hb⟩ h2
    · rename_i h1
      exact ⟨he, ha, by dsimp only; lia⟩
theorem su_heap {pos : Nat} {its : List It} (hp : pos < its.length) (he : ∀ i, 0 < i → i < its.length → pos < (i - 1) / 2 → leP (at' its ((i - 1) / 2)) (at' its i)) : Edges pos (su pos its) := by
  unfold su
  obtain ⟨g1, g2, g3⟩ := suL_heap its.length pos its (by lia) hp .here (fun i i0 hi hs n1 n2 => he i i0 hi (by lia)) (fun h => absurd h (Nat.lt_irrefl _))
  have hlt := suL_lt its.length pos its hp
  have hln := suL_len its.length pos its
  refine sd_heap _ _ _ (Nat.le_refl _) (by rw [List.length_set, hln]; exact hlt) g2 ?_ ?_ ?_
  · intro i i0 hi hs n1 n2
    rw [List.length_set] at hi
    rw [at_set (by rw [hln]; exact hlt), at_set (by rw [hln]; exact hlt), if_neg n1, if_neg n2]
    exact g1 i i0 hi hs n1 n2
  · intro c c0 hc hcp
    rw [List.length_set] at hc
    lia
  · intro _ c c0 hc hcp
    rw [List.length_set] at hc
    lia
theorem set_erase {x : It} : ∀ {l : List It} {i : Nat}, i < l.length → (l.set i x).Perm (x :: l.eraseIdx i)
  | a :: l, 0, _ => List.Perm.refl _
  | a :: l, i + 1, h => by
    have := set_erase (x := x) (l := l) (i := i) (Nat.lt_of_succ_lt_succ h)
    show (a :: l.set i x).Perm (x :: a :: l.eraseIdx i)
    exact (this.cons a).trans (List.Perm.swap x a _)
theorem get_erase : ∀ {l : List It} {i : Nat}, i < l.length → (l.getD i it0 :: l.eraseIdx i).Perm l
  | a :: l, 0, _ => List.Perm.refl _
  | a :: l, i + 1, h => by
    have := get_erase (l := l) (i := i) (Nat.lt_of_succ_lt_succ h)
    show (l.getD i it0 :: a :: l.eraseIdx i).Perm (a :: l)
    exact (List.Perm.swap a _ _).trans (this.cons a)
theorem set_swap {l : List It} {i j : Nat} {x : It} (hi : i < l.length) (hj : j < l.length) (hn : j ≠ i) : ((l.set i (l.getD j it0)).set j x).Perm (l.set i x) := by
  have hj' : j < (l.set i (l.getD j it0)).length := by rw [List.length_set]; exact hj
  have h1 := set_erase (x := x) hj'
  have h2 := get_erase hj'
  have e : (l.set i (l.getD j it0)).getD j it0 = l.getD j it0 := by
    rw [List.getD_eq_getElem?_getD, List.getElem?_set_ne (Ne.symm hn), ← List.getD_eq_getElem?_getD]
  rw [e] at h2
  have h3 := set_erase (x := l.getD j it0) hi
  have h4 := (h2.trans h3).cons_inv
  exact h1.trans ((h4.cons x).trans (set_erase hi).symm)
theorem sd_perm {start : Nat} {x : It} : ∀ (f pos : Nat) (ps : List It), pos < ps.length → (sd start x f pos ps).Perm (ps.set pos x)
  | 0, pos, ps, hp => by unfold sd; exact List.Perm.refl _
  | f + 1, pos, ps, hp => by
    unfold sd
    split
    · rename_i h1
      split
      · have h := sd_perm (start := start) (x := x) f ((pos - 1) / 2) (ps.set pos (ps.getD ((pos - 1) / 2) it0)) (by rw [List.length_set]; lia)
        exact h.trans (set_swap hp (by lia) (by lia))
      · exact List.Perm.refl _
    · exact List.Perm.refl _
theorem suL_perm {x : It} : ∀ (f pos : Nat) (ps : List It), pos < ps.length → ((suL f pos ps).2.set (suL f pos ps).1 x).Perm (ps.set pos x)
  | 0, pos, ps, hp => List.Perm.refl _
  | f + 1, pos, ps, hp => by
    rw [suL_succ]
    split
    · rename_i h1
      split
      · rename_i h2
        exact (suL_perm f (2 * pos + 2) _ (by rw [List.length_set]; exact h2.1)).trans (set_swap hp h2.1 (by lia))
      · exact (suL_perm f (2 * pos + 1) _ (by rw [List.length_set]; exact h1)).trans (set_swap hp h1 (by lia))
    · exact List.Perm.refl _
theorem set_self {l : List It} {i : Nat} (h : i < l.length) : l.set i (l.getD i it0) = l := by
  have e : l.getD i it0 = l[i] := by simp [List.getD_eq_getElem?_getD, h]
  rw [e, List.set_getElem_self]
theorem su_perm {pos : Nat} {its : List It} (hp : pos < its.length) : (su pos its).Perm its := by
  unfold su
  have hlt := suL_lt its.length pos its hp
  have hln := suL_len its.length pos its
  refine (sd_perm _ _ _ (by rw [List.length_set, hln]; exact hlt)).trans ?_
  rw [List.set_set]
  refine (suL_perm _ _ _ hp).trans ?_
  rw [set_self hp]
theorem push_heap {its : List It} {x : It} (h : Edges 0 its) : Edges 0 (pushI its x) ∧ (pushI its x).Perm (x :: its) := by
  have anc : ∀ n, Anc 0 n := fun n => by
    induction n using Nat.strongRecOn with
    | _ n ih => cases n with
      | zero => exact .here
      | succ n => exact .up (Nat.succ_pos _) (ih _ (by lia))
  have hlen : (its ++ [x]).length = its.length + 1 := by simp
  unfold pushI
  constructor
  · refine sd_heap _ _ _ (Nat.le_refl _) (by lia) (anc _) ?_ ?_ ?_
    · intro i i0 hi hs n1 n2
      have e : ∀ k, k < its.length → at' (its ++ [x]) k = at' its k := fun k hk => by
        unfold at'
        rw [List.getD_eq_getElem?_getD, List.getD_eq_getElem?_getD, List.getElem?_append_left hk]
      rw [e i (by lia), e _ (by lia)]
      exact h i i0 (by lia) hs
    · intro c c0 hc hcp; lia
    · intro _ c c0 hc hcp; lia
  · refine (sd_perm _ _ _ (by lia)).trans ?_
    have : (its ++ [x]).set its.length x = its ++ [x] := by simp
    rw [this]
    exact List.perm_append_comm
theorem root_least {l : List It} (h : Edges 0 l) : ∀ i, i < l.length → leP (at' l 0) (at' l i) := fun i => by
  induction i using Nat.strongRecOn with
  | _ i ih =>
    intro hi
    cases i with
    | zero => exact leP_refl _
    | succ i => exact leP_trans (ih ((i + 1 - 1) / 2) (by lia) (by lia)) (h (i + 1) (Nat.succ_pos _) hi (Nat.zero_le _))
theorem root_all {l : List It} (h : Edges 0 l) : ∀ q ∈ l, leP (at' l 0) q.2 := fun q hq => by
  obtain ⟨i, hi, rfl⟩ := List.getElem_of_mem hq
  have := root_least h i hi
  unfold at' at this ⊢
  rw [show l.getD i it0 = l[i] by simp [List.getD_eq_getElem?_getD, hi]] at this
  exact this
theorem edges_cut {l : List It} {k : Nat} (h : Edges k l) : Edges k l.dropLast := fun i i0 hi hs => by
  rw [List.length_dropLast] at hi
  have e : ∀ j, j < l.length - 1 → at' l.dropLast j = at' l j := fun j hj => by
    unfold at'
    rw [List.getD_eq_getElem?_getD, List.getD_eq_getElem?_getD, List.getElem?_dropLast, if_pos hj]
  rw [e i hi, e _ (by lia)]
  exact h i i0 (by lia) hs
theorem last_perm {l : List It} (h : 0 < l.length) : (l.getLastD it0 :: l.dropLast).Perm l := by
  have hne : l ≠ [] := fun e => by rw [e] at h; exact Nat.lt_irrefl _ h
  have e : l.getLastD it0 = l.getLast hne := by
    cases l with
    | nil => exact absurd rfl hne
    | cons a r => simp [List.getLastD]
  rw [e]
  conv => rhs; rw [← List.dropLast_concat_getLast hne]
  exact (List.perm_append_comm (l₁ := [_]) (l₂ := l.dropLast))
theorem pop_heap {its : List It} (h : Edges 0 its) (hne : 0 < its.length) : Edges 0 (popI its).2 ∧ ((popI its).1 :: (popI its).2).Perm its ∧ ∀ q ∈ its, leP (popI its).1.2 q.2 := by
  by_cases h1 : 1 < its.length
  · rw [popI_eq1 h1]
    dsimp only
    have hd : 0 < (its.dropLast.set 0 (its.getLastD it0)).length := by rw [List.length_set, List.length_dropLast]; lia
    have hd0 : 0 < its.dropLast.length := by rw [List.length_dropLast]; lia
    refine ⟨su_heap hd (fun i i0 hi hs => ?_), ?_, fun q hq => root_all h q hq⟩
    · rw [List.length_set] at hi
      rw [at_set hd0, at_set hd0, if_neg (by lia), if_neg (by lia)]
      exact edges_cut h i i0 hi (Nat.zero_le _)
    · have g1 : (its.getD 0 it0 :: su 0 (its.dropLast.set 0 (its.getLastD it0))).Perm (its.getD 0 it0 :: its.dropLast.set 0 (its.getLastD it0)) := (su_perm hd).cons _
      have g2 := set_erase (x := its.getLastD it0) hd0
      have g3 := get_erase hd0
      rw [dropLast_head h1] at g3
      refine g1.trans ((g2.cons _).trans ((List.Perm.swap _ _ _).trans ((g3.cons _).trans (last_perm hne))))
  · rw [popI_eq2 h1]
    dsimp only
    have e : its.dropLast = [] := List.eq_nil_of_length_eq_zero (by rw [List.length_dropLast]; lia)
    refine ⟨fun i i0 hi => by rw [e] at hi; exact absurd hi (Nat.not_lt_zero _), last_perm hne, fun q hq => ?_⟩
    have hp := last_perm hne
    rw [e] at hp
    rw [List.mem_singleton.mp (hp.mem_iff.mpr hq)]
    exact leP_refl _
theorem hfyL_heap : ∀ (k : Nat) (its : List It), k ≤ its.length → (∀ i, 0 < i → i < its.length → k ≤ (i - 1) / 2 → leP (at' its ((i - 1) / 2)) (at' its i)) → Edges 0 (hfyL k its) ∧ (hfyL k its).Perm its
  | 0, its, _, h => ⟨h, List.Perm.refl _⟩
  | k + 1, its, hk, h => by
    have hp : k < its.length := hk
    have g := hfyL_heap k (su k its) (by rw [su_len]; lia) (fun i i0 hi hs => su_heap hp (fun i i0 hi hs => h i i0 hi hs) i i0 hi hs)
    exact ⟨g.1, g.2.trans (su_perm hp)⟩
theorem hfy_heap (its : List It) : Edges 0 (hfyI its) ∧ (hfyI its).Perm its := hfyL_heap _ _ (Nat.div_le_self _ _) (fun i i0 hi hs => by lia)
end Mine
end
section
open PySem PySem.W PyProof.Rows PySem.Calls PySem.Spec
set_option maxRecDepth 100000
namespace Mine
/-- the key of a place in the heap of all places -/
noncomputable def keyP (x : Str) : Pr := (-(x.length : Int), x)
/-- sorted by leP -/
noncomputable def insP (p : Pr) : List Pr → List Pr
  | [] => [p]
  | q :: r => if ltP q p = true then q :: insP p r else p :: q :: r
noncomputable def sortP : List Pr → List Pr
  | [] => []
  | p :: r => insP p (sortP r)
theorem insP_perm (p : Pr) : ∀ l, (insP p l).Perm (p :: l)
  | [] => List.Perm.refl _
  | q :: r => by
    unfold insP
    split
    · exact ((insP_perm p r).cons q).trans (List.Perm.swap p q r)
    · exact List.Perm.refl _
theorem sortP_perm : ∀ l, (sortP l).Perm l
  | [] => List.Perm.refl _
  | p :: r => (insP_perm p _).trans ((sortP_perm r).cons p)
theorem insP_sorted (p : Pr) : ∀ l, l.Pairwise leP → (insP p l).Pairwise leP
  | [], _ => List.pairwise_singleton _ _
  | q :: r, h => by
    rw [List.pairwise_cons] at h
    unfold insP
    split
    · rename_i hlt
      rw [List.pairwise_cons]
      refine ⟨fun a ha => ?_, insP_sorted p r h.2⟩
      rcases List.mem_cons.mp ((insP_perm p r).mem_iff.mp ha) with rfl | ha
      · exact leP_of_lt hlt
      · exact h.1 a ha
    · rename_i hlt
      have hpq : leP p q := by
        show ltP q p = false
        cases hb : ltP q p with
        | true => exact absurd hb hlt
        | false => rfl
      rw [List.pairwise_cons]
      refine ⟨fun a ha => ?_, List.pairwise_cons.mpr h⟩
      rcases List.mem_cons.mp ha with rfl | ha
      · exact hpq
      · exact leP_trans hpq (h.1 a ha)
theorem sortP_sorted : ∀ l, (sortP l).Pairwise leP
  | [] => List.Pairwise.nil
  | p :: r => insP_sorted p _ (sortP_sorted r)
/-- the least of what is left comes next -/
theorem sorted_next {p q : Pr} {r l : List Pr} (hs : (q :: r).Pairwise leP) (hp : (p :: l).Perm (q :: r)) (hl : ∀ a ∈ q :: r, leP p a) : p = q ∧ l.Perm r := by
  have h1 : leP p q := hl q (.head _)
  have h2 : leP q p := by
    rcases List.mem_cons.mp (hp.mem_iff.mp (.head _)) with e | hm
    · rw [e]; exact leP_refl _
    · exact (List.pairwise_cons.mp hs).1 p hm
  have e := leP_antisymm h1 h2
  subst e
  exact ⟨rfl, hp.cons_inv⟩
theorem off3_app {I C D : Addr} : ∀ {l r : Led}, LCg.Off3 I C D (l ++ r) ↔ LCg.Off3 I C D l ∧ LCg.Off3 I C D r
  | [], _ => ⟨fun h => ⟨trivial, h⟩, fun h => h.2⟩
  | _ :: l, r => ⟨fun h => ⟨⟨h.1, (off3_app.mp h.2).1⟩, (off3_app.mp h.2).2⟩, fun h => ⟨h.1.1, off3_app.mpr ⟨h.1.2, h.2⟩⟩⟩
theorem off3_put {I C D : Addr} {l r : Led} {p : Addr × Obj} (h : LCg.Off3 I C D (l ++ r)) (h1 : @Ne Nat p.1 I) (h2 : @Ne Nat p.1 C) (h3 : @Ne Nat p.1 D) : LCg.Off3 I C D (l ++ p :: r) :=
  off3_app.mpr ⟨(off3_app.mp h).1, ⟨h1, h2, h3⟩, (off3_app.mp h).2⟩
theorem sub_put {a b c p : Addr × Obj} {l r : Led} : ∀ q ∈ a :: b :: c :: (l ++ p :: r), q ∈ p :: a :: b :: c :: (l ++ r) := fun q hq => by
  simp only [List.mem_cons, List.mem_append] at hq ⊢
  rcases hq with h | h | h | h | h | h <;> simp [h]
theorem valsI_snoc {its : List It} {D : Addr} {p : Pr} : valsI (its ++ [(D, p)]) = valsI its ++ [.ref D] := by simp [valsI]
noncomputable def PIn (tl : Led) (its : List It) : Prop := ∀ q ∈ its, ∃ t u, (q.1, tup2 [.int q.2.1 t, .str q.2.2 u]) ∈ tl
theorem items_of {h₀ h : Heap} {L : Addr} {tl led : Led} {its : List It} (N : News h₀ L h led) (hs : ∀ p ∈ tl, p ∈ led) (ht : PIn tl its) : ItemsAt h its := fun q hq => by
  obtain ⟨t, u, e⟩ := ht q hq
  exact ⟨t, u, (N _ (hs _ e)).1⟩
end Mine
end
section
open PySem PySem.W PyProof.Rows PySem.Calls PySem.Spec
set_option maxRecDepth 100000
namespace Mine
noncomputable abbrev barS : Str := Str.ofString "|"
noncomputable def rowS (l : Int) (p : Str) : Str := Txt.mul barS l ++ p
noncomputable def headOk (p : Str) : Bool := (p.cps.toList.head? == some 47) && p.cps.toList.all (fun c => c != 124)
noncomputable def rowKey (r : Str) : Pr := (-(Txt.count r barS), Txt.lstripChars r barS)
theorem head_all : (pl 7).all headOk = true := by decide +kernel
noncomputable def mulOk (l : Nat) : Bool := (Txt.mul barS (l : Int)).cps.toList == List.replicate l 124
theorem mul_all : (List.range 9).all mulOk = true := by decide +kernel
theorem cnt_bars : (List.range 9).all (fun l => decide (PyProof.Rows.cnt 124 (List.replicate l 124) = (l : Int))) = true := by decide +kernel
theorem cnt_none : ∀ (l : List Nat), l.all (fun c => c != 124) = true → PyProof.Rows.cnt 124 l = 0
  | [], _ => rfl
  | c :: l, h => by
    rw [List.all_cons, Bool.and_eq_true] at h
    have h1 : c ≠ 124 := by simpa using h.1
    rw [PyProof.Rows.cnt_cons, cnt_none l h.2]
    simp [h1]
theorem barS_cps : barS = ⟨#[124]⟩ := by decide +kernel
theorem row_facts {l : Int} {p : Str} (h0 : 0 ≤ l) (h8 : l ≤ 8) (hp : p ∈ pl 7) : Txt.count (rowS l p) barS = l ∧ Txt.lstripChars (rowS l p) barS = p ∧ clean (rowS l p) = true ∧ (rowS l p).length ≤ 30 := by
  obtain ⟨n, rfl⟩ := Int.eq_ofNat_of_zero_le h0
  have hn : n < 9 := by lia
  have hm : (Txt.mul barS (n : Int)).cps.toList = List.replicate n 124 := by
    have := List.all_eq_true.mp mul_all n (List.mem_range.mpr hn)
    unfold mulOk at this
    exact eq_of_beq this
  have hh := List.all_eq_true.mp head_all p hp
  unfold headOk at hh
  rw [Bool.and_eq_true, beq_iff_eq] at hh
  have hr : (rowS n p).cps.toList = List.replicate n 124 ++ p.cps.toList := by
    unfold rowS
    rw [PyProof.Rows.cps_toList_append, hm]
  obtain ⟨rest, hrest⟩ : ∃ rest, p.cps.toList = 47 :: rest := by
    cases hq : p.cps.toList with
    | nil => rw [hq] at hh; cases hh.1
    | cons a r => rw [hq] at hh; simp at hh; exact ⟨r, by rw [hh.1]⟩
  have hlen : (rowS n p).length = n + p.length := by
    have := congrArg List.length hr
    rw [List.length_append, List.length_replicate, Array.length_toList, Array.length_toList] at this
    exact this
  have h16 := (pl_facts hp).2.2.2.2.2.1
  refine ⟨?_, ?_, ?_, by lia⟩
  · rw [barS_cps, count_cnt, hr, cnt_append, cnt_none _ hh.2]
    have := List.all_eq_true.mp cnt_bars n (List.mem_range.mpr hn)
    simp only [decide_eq_true_eq] at this
    rw [this]
    lia
  · have hw : ((rowS n p).cps.toList.takeWhile barS.cps.contains).length = n := by
      rw [hr, hrest]
      have : ∀ k, (List.takeWhile barS.cps.contains (List.replicate k 124 ++ 47 :: rest)).length = k := by
        intro k
        induction k with
        | zero =>
          rw [List.replicate_zero, List.nil_append, List.takeWhile_cons]
          have : barS.cps.contains 47 = false := by decide +kernel
          rw [this]; rfl
        | succ k ih =>
          rw [List.replicate_succ, List.cons_append, List.takeWhile_cons]
          have : barS.cps.contains 124 = true := by decide +kernel
          rw [this, if_pos rfl, List.length_cons, ih]
      exact this n
    unfold Txt.lstripChars
    rw [PyProof.Rows.stripBy_eq]
    unfold stripLo stripHi
    rw [if_pos rfl, if_neg Bool.false_ne_true, hw]
    refine cps_ext ?_
    unfold Builtin.Str.strSub
    show ((rowS n p).cps.extract n (rowS n p).cps.size).toList = _
    rw [Array.toList_extract, List.extract_eq_take_drop, hr, List.drop_left' (List.length_replicate ..)]
    refine List.take_of_length_le ?_
    have e1 : (rowS n p).cps.size = n + p.length := hlen
    have e2 : p.cps.toList.length = p.length := Array.length_toList
    lia
  · have hc := (pl_facts hp).1
    unfold clean at hc ⊢
    rw [← Array.all_toList] at hc ⊢
    rw [hr, List.all_append, hc, Bool.and_true, List.all_eq_true]
    intro c hcm
    rw [List.eq_of_mem_replicate hcm]
    rfl
/-- a table without its addresses -/
noncomputable def setK (k v : Str) (c : List Kv) : List Kv := (c.filter fun q => Txt.lower q.1 != Txt.lower k) ++ [(k, v)]
noncomputable def getAllK (name : Str) (c : List Kv) : List Str := (c.filter fun q => decide (Txt.lower q.1 = Txt.lower name)).map (·.2)
theorem getAllF_K {name : Str} {its : List HIt} : getAllF name its = getAllK name (its.map (·.2)) := by
  unfold getAllF getAllK
  rw [List.filter_map, List.map_map]
  rfl
theorem delF_K {k v : Str} {its : List HIt} {D : Addr} : (delF k its ++ [(D, (k, v))]).map (·.2) = setK k v (its.map (·.2)) := by
  unfold delF setK
  rw [List.map_append, List.filter_map]
  rfl
/-- cut the heaviest while it is too heavy; what hangs comes sorted -/
noncomputable def cutW (place : Str) (room : Int) : List Pr → Int → List Kv → Int × List Kv
  | [], load, cuts => (load, cuts)
  | q :: r, load, cuts => if room < load then cutW place room r (load + q.1) (setK (Txt.upper q.2) place cuts) else (load, cuts)
theorem cutW_pos {place : Str} {room load : Int} {q : Pr} {r : List Pr} {cuts : List Kv} (h : room < load) : cutW place room (q :: r) load cuts = cutW place room r (load + q.1) (setK (Txt.upper q.2) place cuts) := if_pos h
theorem cutW_neg {place : Str} {room load : Int} {r : List Pr} {cuts : List Kv} (h : ¬ room < load) : cutW place room r load cuts = (load, cuts) := by
  cases r with
  | nil => rfl
  | cons q r => exact if_neg h
structure St where
  hang : List Kv
  cuts : List Kv
  load : Int
noncomputable def rowsOf (st : St) (place : Str) : List Str := getAllK (Txt.upper place) st.hang
noncomputable def loadOf (rows : List Str) (l0 : Int) : Int := rows.foldl (fun a r => a + Txt.count r barS) l0
noncomputable def cutOf (ld : Str → Int) (room : Int) (st : St) (place : Str) : Int × List Kv := cutW place room (sortP ((rowsOf st place).map rowKey)) (loadOf (rowsOf st place) (ld place)) st.cuts
noncomputable def turnP (ld : Str → Int) (room : Int) (st : St) (place : Str) : St :=
  ⟨st.hang ++ [(dirS place, rowS (cutOf ld room st place).1 place)], (cutOf ld room st place).2, (cutOf ld room st place).1⟩
noncomputable def cutF (ld : Str → Int) (room : Int) (ss : List Str) : St := ((sortP (ss.map keyP)).map (·.2)).foldl (turnP ld room) ⟨[], [], 0⟩
/-- what holds between the turns -/
noncomputable def HangOk (h : List Kv) : Prop := ∀ q ∈ h, q.1 ∈ pl 7 ∧ ∃ l p, 0 ≤ l ∧ l ≤ 8 ∧ p ∈ pl 7 ∧ q.2 = rowS l p
noncomputable def CutsOk (c : List Kv) : Prop := ∀ q ∈ c, (∃ p ∈ pl 7, q.1 = Txt.upper p) ∧ q.2 ∈ pl 7
noncomputable def KeysOk (r : List Pr) : Prop := ∀ q ∈ r, -8 ≤ q.1 ∧ q.1 ≤ 0 ∧ q.2 ∈ pl 7
theorem upper_pl {p : Str} (hp : p ∈ pl 7) : Txt.lower (Txt.upper p) = p := (pl_facts hp).2.2.2.1
theorem dir_slash : dirS (Str.ofString "/") = Str.ofString "/" := by decide +kernel
theorem slash_pl : Str.ofString "/" ∈ pl 7 := pl_mono (m := 0) (by decide) _ (.head _)
theorem dir_pl {p : Str} (hp : p ∈ pl 7) : dirS p ∈ pl 7 := by
  by_cases e : p = Str.ofString "/"
  · rw [e, dir_slash]; exact slash_pl
  · exact ((pl_facts hp).2.2.2.2.2.2.2 e).1
theorem rows_ok {h : List Kv} (hk : HangOk h) {name r : Str} (hr : r ∈ getAllK name h) : ∃ l p, 0 ≤ l ∧ l ≤ 8 ∧ p ∈ pl 7 ∧ r = rowS l p := by
  obtain ⟨q, hq, rfl⟩ := List.mem_map.mp hr
  exact (hk q (List.mem_filter.mp hq).1).2
theorem rows_len {h : List Kv} {name : Str} : (getAllK name h).length ≤ h.length := by
  unfold getAllK; rw [List.length_map]; exact List.length_filter_le _ _
theorem rowKey_ok {l : Int} {p : Str} (h0 : 0 ≤ l) (h8 : l ≤ 8) (hp : p ∈ pl 7) : rowKey (rowS l p) = (-l, p) := by
  obtain ⟨a, b, _⟩ := row_facts h0 h8 hp
  unfold rowKey
  rw [a, b]
theorem keys_ok {h : List Kv} (hk : HangOk h) {name : Str} : KeysOk ((getAllK name h).map rowKey) := fun q hq => by
  obtain ⟨r, hr, rfl⟩ := List.mem_map.mp hq
  obtain ⟨l, p, h0, h8, hp, rfl⟩ := rows_ok hk hr
  rw [rowKey_ok h0 h8 hp]
  exact ⟨by dsimp only; lia, by dsimp only; lia, hp⟩
theorem cutsOk_set {k v : Str} {c : List Kv} (h : CutsOk c) (hk : k ∈ pl 7) (hv : v ∈ pl 7) : CutsOk (setK (Txt.upper k) v c) := fun q hq => by
  rcases List.mem_append.mp hq with hq | hq
  · exact h q (List.mem_filter.mp hq).1
  · rw [List.mem_singleton.mp hq]; exact ⟨⟨k, hk, rfl⟩, hv⟩
theorem setK_len {k v : Str} {c : List Kv} : (setK k v c).length ≤ c.length + 1 := by
  unfold setK
  rw [List.length_append]
  exact Nat.add_le_add_right (List.length_filter_le _ _) 1
theorem hdLens_of {its : List HIt} (h1 : its.length ≤ 100) (h2 : HangOk (its.map (·.2))) : hdLens its := ⟨h1, fun q hq => by
  obtain ⟨a, l, p, h0, h8, hp, e⟩ := h2 q.2 (List.mem_map_of_mem hq)
  have := (pl_facts a).2.2.2.2.2.1
  have := (row_facts h0 h8 hp).2.2.2
  rw [e]
  exact ⟨by lia, by lia⟩⟩
theorem cutLens_of {its : List HIt} (h1 : its.length ≤ 100) (h2 : CutsOk (its.map (·.2))) : hdLens its := ⟨h1, fun q hq => by
  obtain ⟨⟨p, hp, e⟩, b⟩ := h2 q.2 (List.mem_map_of_mem hq)
  have := (pl_facts hp).2.2.2.2.2.2.1
  have := (pl_facts b).2.2.2.2.2.1
  rw [e]
  exact ⟨by lia, by lia⟩⟩
/-- what hangs, summed up -/
noncomputable def wsum (r : List Pr) : Int := (r.map (·.1)).sum
theorem wsum_perm {a b : List Pr} (h : a.Perm b) : wsum a = wsum b := by
  unfold wsum
  induction h with
  | nil => rfl
  | cons x _ ih => simp only [List.map_cons, List.sum_cons, ih]
  | swap x y l => simp only [List.map_cons, List.sum_cons]; lia
  | trans _ _ h1 h2 => exact h1.trans h2
theorem loadOf_wsum : ∀ (rows : List Str) (l0 : Int), loadOf rows l0 = l0 - wsum (rows.map rowKey)
  | [], l0 => by simp [loadOf, wsum]
  | r :: rows, l0 => by
    have := loadOf_wsum rows (l0 + Txt.count r barS)
    unfold loadOf at this ⊢
    rw [List.foldl_cons, this]
    simp only [wsum, List.map_cons, List.sum_cons, rowKey]
    lia
end Mine
end
section
open PySem PySem.W PyProof.Rows PySem.Calls PySem.Spec
set_option maxRecDepth 100000
namespace Mine
/-- a dict of ints under strs -/
noncomputable def DictAt (w : World) (h : Heap) (a : Addr) (ss : List Str) (ld : Str → Int) : Prop :=
  ∃ D, TabAt (PySem.strKind (PySem.Challenge.rw_il0086_01.row.prog) w) PyData.str h a D ∧ ∀ x ∈ ss, lookup (PyData.str x) D = some (.int (ld x))
theorem DictAt.keeps {w : World} {h h' : Heap} {a : Addr} {ss : List Str} {ld : Str → Int} (x : DictAt w h a ss ld) (k : ∀ b o, h.get? b = some o → h'.get? b = some o) : DictAt w h' a ss ld :=
  let ⟨D, t, e⟩ := x; ⟨D, t.keep k, e⟩
noncomputable def HIn (tl : Led) (its : List HIt) : Prop := ∀ q ∈ its, ∃ t u, (q.1, tup2 [.str q.2.1 t, .str q.2.2 u]) ∈ tl
noncomputable def Tups (tl : Led) : Prop := ∀ p ∈ tl, p.2.cls = .type "tuple"
theorem hat_of {h₀ h : Heap} {L : Addr} {tl led : Led} {its : List HIt} (N : News h₀ L h led) (hs : ∀ p ∈ tl, p ∈ led) (ht : HIn tl its) : HAt h its := fun q hq => by
  obtain ⟨t, u, e⟩ := ht q hq
  exact ⟨t, u, (N _ (hs _ e)).1⟩
theorem PIn.mono {tl tl' : Led} {its its' : List It} (h : PIn tl its) (h1 : ∀ p ∈ tl, p ∈ tl') (h2 : ∀ q ∈ its', q ∈ its) : PIn tl' its' := fun q hq => by
  obtain ⟨t, u, e⟩ := h q (h2 q hq)
  exact ⟨t, u, h1 _ e⟩
theorem HIn.mono {tl tl' : Led} {its its' : List HIt} (h : HIn tl its) (h1 : ∀ p ∈ tl, p ∈ tl') (h2 : ∀ q ∈ its', q ∈ its) : HIn tl' its' := fun q hq => by
  obtain ⟨t, u, e⟩ := h q (h2 q hq)
  exact ⟨t, u, h1 _ e⟩
theorem HIn.del {tl : Led} {its : List HIt} {name : Str} (h : HIn tl its) : HIn tl (delF name its) := h.mono (fun _ h => h) (fun _ h => (List.mem_filter.mp h).1)
theorem HIn.snoc {tl : Led} {its : List HIt} {D : Addr} {a b : Str} {t u : Tok} (h : HIn tl its) : HIn ((D, tup2 [.str a t, .str b u]) :: tl) (its ++ [(D, (a, b))]) := fun q hq => by
  rcases List.mem_append.mp hq with hq | hq
  · obtain ⟨t, u, e⟩ := h q hq
    exact ⟨t, u, .tail _ e⟩
  · rw [List.mem_singleton.mp hq]
    exact ⟨t, u, .head _⟩
theorem Tups.cons {tl : Led} {D : Addr} {vs : List Value} (h : Tups tl) : Tups ((D, tup2 vs) :: tl) := List.forall_mem_cons.mpr ⟨rfl, h⟩
/-- what leaves a heap of pairs -/
theorem pop_perm {its : List It} {q : Pr} {r : List Pr} (hh : Edges 0 its) (hp : (its.map (·.2)).Perm (q :: r)) (hs : (q :: r).Pairwise leP) :
    (popI its).1 ∈ its ∧ (popI its).1.2 = q ∧ Edges 0 (popI its).2 ∧ ((popI its).2.map (·.2)).Perm r ∧ (∀ x ∈ (popI its).2, x ∈ its) := by
  have hne : 0 < its.length := by
    have := hp.length_eq
    rw [List.length_map, List.length_cons] at this
    lia
  obtain ⟨h1, h2, h3⟩ := pop_heap hh hne
  have h2' := h2.map (·.2)
  rw [List.map_cons] at h2'
  have hall : ∀ a ∈ q :: r, leP (popI its).1.2 a := fun a ha => by
    obtain ⟨x, hx, rfl⟩ := List.mem_map.mp (hp.mem_iff.mpr ha)
    exact h3 x hx
  obtain ⟨e, hr⟩ := sorted_next hs (h2'.trans hp) hall
  exact ⟨h2.mem_iff.mp (.head _), e, h1, hr, fun x hx => h2.mem_iff.mp (.tail _ hx)⟩
theorem push_perm {its : List It} {x : It} {l : List Pr} (hh : Edges 0 its) (hp : (its.map (·.2)).Perm l) : Edges 0 (pushI its x) ∧ ((pushI its x).map (·.2)).Perm (l ++ [x.2]) ∧ ∀ q ∈ pushI its x, q = x ∨ q ∈ its := by
  obtain ⟨h1, h2⟩ := push_heap (x := x) hh
  refine ⟨h1, ?_, fun q hq => List.mem_cons.mp (h2.mem_iff.mp hq)⟩
  have := h2.map (·.2)
  rw [List.map_cons] at this
  exact this.trans ((hp.cons _).trans (List.perm_append_singleton _ _).symm)
theorem pushI_len {its : List It} {x : It} : (pushI its x).length = its.length + 1 := by
  unfold pushI
  rw [sd_len, List.length_append]
  rfl
section
variable {w : World} {A : Around} {E : Value → Shared → Prop} {s : Shared}
theorem r_dict {value slice : Expr} {a : Addr} {x : Str} {u : Tok} {ss : List Str} {ld : Str → Int} {Q : Value → Shared → Prop} (T : DictAt w s.heap a ss ld) (hx : x ∈ ss) (h : ∀ t k, Q (.int (ld x) t) { s with toks := k })
    (hs : subscripted slice false (.ref a) (.str x u) = operate [.ref a, .str x u] (getItem (.ref a) (.str x u)) := by with_unfolding_all rfl) (hg : ∀ r, letTemporaryGo value (.ref a) r = pure () := by intro _; with_unfolding_all rfl) :
    wpAny (model (PySem.Challenge.rw_il0086_01.row.prog) w) A (subscriptTail value slice (.ref a) (.str x u)) Q E s := by
  obtain ⟨D, hT, hl⟩ := T
  exact item_tab (knd := PySem.strKind (PySem.Challenge.rw_il0086_01.row.prog) w) (k := x) PyProof.V.same_str (strKind_is _ _ _ _) hT (hl x hx) (fun v hv => by obtain ⟨t, rfl⟩ := PyProof.V.Flat.int_inv hv; exact h _ _) hs hg
end
/-- the pop with its names -/
noncomputable def PopSpecQ (K : Params → Frag) (p : Program) (w : World) : Prop := ∀ (l : Addr) (its rest : List It) (n : Nat) (q : It), its.length ≤ 900 → 0 < its.length → popI its = (q, rest) →
  CallOk K p w 200 [.ref l] [] (fun h => ItemsAt h its) [(l, listOf (valsI its).toArray n)] 9 60 (fun _ v n₁ => v = .ref q.1 ∧ n₁ = [(l, listOf (valsI rest).toArray (n + 1))])
theorem PopSpec.q {K : Params → Frag} {p : Program} {w : World} (S : PopSpec K p w) : PopSpecQ K p w := fun l its rest n q h1 h2 e => by
  have := S l its n h1 h2
  rw [e] at this
  exact this
/-- the ledger of the cut between two turns -/
noncomputable abbrev cutL (w : World) (hp x1 d1 l1 x2 d2 l2 : Addr) (t1 t2 : Tok) (its : List It) (hk ck : List HIt) (kk n1 n2 : Nat) (tl : Led) : Led :=
  (hp, listOf (valsI its).toArray kk) :: (x2, instObj 182 d2) :: (d2, hdD w l2 t2) :: (l2, listOf (hvals ck).toArray n2) :: (x1, instObj 182 d1) :: (d1, hdD w l1 t1) :: (l1, listOf (hvals hk).toArray n1) :: tl
structure CutSt (ss : List Str) (ld : Str → Int) (room : Int) (its : List It) (hk ck : List HIt) (tl : Led) (load : Int) (r : List Pr) : Prop where
  pin : PIn tl its
  hin1 : HIn tl hk
  hin2 : HIn tl ck
  tups : Tups tl
  edges : Edges 0 its
  perm : (its.map (·.2)).Perm r
  sorted : r.Pairwise leP
  fold : (r.map (·.2)).foldl (turnP ld room) ⟨hk.map (·.2), ck.map (·.2), load⟩ = cutF ld room ss
  mem : ∀ q ∈ r, q.2 ∈ ss
  len1 : hk.length + its.length ≤ 8
  len2 : ck.length ≤ 8 * hk.length
  hok : HangOk (hk.map (·.2))
  cok : CutsOk (ck.map (·.2))
noncomputable def cutNames (m : Str → Option Value) (P LD hp x1 x2 : Addr) (room load : Int) (t tl : Tok) : Prop :=
  And7 (m (Str.ofString "places") = some (.ref P)) (m (Str.ofString "loads") = some (.ref LD)) (m (Str.ofString "heap") = some (.ref hp)) (m (Str.ofString "hanging") = some (.ref x1)) (m (Str.ofString "cuts") = some (.ref x2)) (m (Str.ofString "room") = some (.int room t)) (m (Str.ofString "load") = some (.int load tl))
noncomputable def CutInv (w : World) (g : Heap) (L : Addr) (s : Shared) (P LD hp x1 d1 l1 x2 d2 l2 : Addr) (t t1 t2 : Tok) (ss : List Str) (ld : Str → Int) (room : Int) (k : Nat) (s' : Shared) : Prop :=
  Ex13 fun (its : List It) (hk : List HIt) (ck : List HIt) (kk : Nat) (n1 : Nat) (n2 : Nat) (tl : Led) (m : Str → Option Value) (h : Heap) (tk : Nat) (load : Int) (tl0 : Tok) (r : List Pr) => And6 (s' = { s with heap := h, toks := tk }) (Fr g L h m) (News g L h (cutL w hp x1 d1 l1 x2 d2 l2 t1 t2 its hk ck kk n1 n2 tl)) (k = its.length) (cutNames m P LD hp x1 x2 room load t tl0) (CutSt ss ld room its hk ck tl load r)
/-- the lists that are turned differ -/
structure CutNe (hp l1 l2 : Addr) : Prop where
  a : @Ne Nat hp l1
  b : @Ne Nat hp l2
  c : @Ne Nat l1 l2
theorem cut_while {w : World} {A : Around} {E : Value → Shared → Prop} {s s₀ : Shared} {g : Heap} {L : Addr} {m : Str → Option Value} {P LD hp x1 d1 l1 x2 d2 l2 : Addr} {t t1 t2 tl0 : Tok} {ss : List Str} {ld : Str → Int} {room load : Int} {its : List It} {hk ck : List HIt} {kk n1 n2 : Nat} {tl : Led} {r : List Pr}
    {test : Expr} {body : List Stmt} {env : Env} {pos : Pos} {Q : Flow → Shared → Prop}
    (F : Fr g L s₀.heap m) (N : News g L s₀.heap (cutL w hp x1 d1 l1 x2 d2 l2 t1 t2 its hk ck kk n1 n2 tl)) (hs : ∃ h tk, s₀ = { s with heap := h, toks := tk }) (hne : CutNe hp l1 l2) (nm : cutNames m P LD hp x1 x2 room load t tl0) (st : CutSt ss ld room its hk ck tl load r)
    (turn : ∀ n s', CutNe hp l1 l2 → CutInv w g L s P LD hp x1 d1 l1 x2 d2 l2 t t1 t2 ss ld room n s' → wpAny (model (PySem.Challenge.rw_il0086_01.row.prog) w) A (isTrue test env (eval test env)) (fun b s₂ =>
        if b then wpAny (model (PySem.Challenge.rw_il0086_01.row.prog) w) A (execs body env) (fun f s₃ => match f with
            | .next | .cont => Stopped (∃ m, m < n ∧ CutInv w g L s P LD hp x1 d1 l1 x2 d2 l2 t t1 t2 ss ld room m s₃)
            | .brk => Stopped False
            | .ret _ => False) (fun _ _ => False) s₂
        else Stopped (CutInv w g L s P LD hp x1 d1 l1 x2 d2 l2 t t1 t2 ss ld room 0 s₂)) (fun _ _ => False) s')
    (rest : ∀ st, CutInv w g L s P LD hp x1 d1 l1 x2 d2 l2 t t1 t2 ss ld room 0 st → Q .next st) : wpAny (model (PySem.Challenge.rw_il0086_01.row.prog) w) A (exec (.While test body [] pos) env) Q E s₀ := by
  obtain ⟨h, tk, rfl⟩ := hs
  refine while_cut (fun st => CutInv w g L s P LD hp x1 d1 l1 x2 d2 l2 t t1 t2 ss ld room 0 st) (fun n s' => CutInv w g L s P LD hp x1 d1 l1 x2 d2 l2 t t1 t2 ss ld room n s') its.length ⟨its, hk, ck, kk, n1, n2, tl, m, h, tk, load, tl0, r, rfl, F, N, rfl, nm, st⟩ (fun n s' hI => ?_) rest
  refine wpAny_mono (turn n s' hne hI) (fun b s₂ h₂ => ?_) fun _ _ x => x
  cases b with
  | true =>
    simp only [if_true] at h₂ ⊢
    exact wpAny_mono h₂ (fun f s₃ h₃ => by cases f <;> first | exact h₃ | exact h₃.out.elim) fun _ _ x => x
  | false => exact h₂
theorem r_neNil {prog : Program} {w : World} {A : Around} {E : Value → Shared → Prop} {s : Shared} {h₀ : Heap} {L D e : Addr} {news : Led} {its : List It} {n k : Nat} {b : Bool} {Q : Value → Shared → Prop} (N : News h₀ L s.heap news) (hm : (D, listOf (valsI its).toArray n) ∈ news) (he : (e, listOf #[] k) ∈ news) (hb : decide (0 < its.length) = b) (hu : A.units < cLine)
    (h : Q (.bool b) s) : wpAny (model prog w) A (compareOp .NotEq (.ref D) (.ref e)) Q E s := by
  have hl := PySem.IsL.isList (n := n) (N _ hm).1
  have hl2 := PySem.IsL.isList (n := k) (N _ he).1
  refine cmp_ofNotEq ?_
  subst hb
  cases its with
  | nil =>
    have := PySem.SeqAt.RcNeAt.lists (e := fun _ => true) hl hl2 rfl hu (fun j h1 h2 => absurd h1 (Nat.not_lt_zero _))
    exact this _ _ _ _ h
  | cons q r => exact PySem.SeqAt.RcNeAt.lists_lengths hl hl2 (by simp) hu _ _ _ _ h
/-- the push with its names -/
noncomputable def PushSpecQ (K : Params → Frag) (p : Program) (w : World) : Prop := ∀ (l D : Addr) (its : List It) (n : Nat) (x : Pr), its.length ≤ 900 →
  CallOk K p w 193 [.ref l, .ref D] [] (fun h => ItemsAt h its ∧ PairAt h D x) [(l, listOf (valsI its).toArray n)] 9 60 (fun _ v n₁ => v = .none ∧ n₁ = [(l, listOf (valsI (pushI its (D, x))).toArray (n + 1))])
theorem PushSpec.q {K : Params → Frag} {p : Program} {w : World} (S : PushSpec K p w) : PushSpecQ K p w := fun l D its n x h => S l its n (D, x) h
noncomputable def SetSpecQ (K : Params → Frag) (p : Program) (w : World) : Prop := ∀ (x d l : Addr) (t t2 t3 : Tok) (its : List HIt) (n : Nat) (name val : Str), hdLens its → name.length ≤ 1000 → val.length ≤ 1000 → clean name = true → clean (Txt.lower name) = true → clean val = true →
  CallOk K p w 97 [.ref x, .str name t2, .str val t3] [] (fun h => HAt h its) (hdL w x d l t its n) 12 120 (fun _ v n₁ => ∃ y : Addr × Tok × Tok × Nat, v = .none ∧ n₁ = [(y.1, tup2 [.str name y.2.1, .str val y.2.2.1])] ++ hdL w x d l t (delF name its ++ [(y.1, (name, val))]) y.2.2.2)
theorem SetSpec.q {K : Params → Frag} {p : Program} {w : World} (S : SetSpec K p w) : SetSpecQ K p w := S
noncomputable def AddSpecQ (K : Params → Frag) (p : Program) (w : World) : Prop := ∀ (x d l : Addr) (t t2 t3 : Tok) (its : List HIt) (n : Nat) (name val : Str), hdLens its → name.length ≤ 1000 → val.length ≤ 1000 → clean name = true → clean val = true →
  CallOk K p w 179 [.ref x, .str name t2, .str val t3] [] (fun h => HAt h its) (hdL w x d l t its n) 12 120 (fun _ v n₁ => ∃ y : Addr × Tok × Tok × Nat, v = .none ∧ n₁ = [(y.1, tup2 [.str name y.2.1, .str val y.2.2.1])] ++ hdL w x d l t (its ++ [(y.1, (name, val))]) y.2.2.2)
theorem AddSpec.q {K : Params → Frag} {p : Program} {w : World} (S : AddSpec K p w) : AddSpecQ K p w := S
theorem pair_of {h₀ h : Heap} {L D : Addr} {led : Led} {a : Int} {b : Str} {t u : Tok} (N : News h₀ L h led) (hm : (D, tup2 [.int a t, .str b u]) ∈ led) : PairAt h D (a, b) := ⟨t, u, (N _ hm).1⟩
theorem stand_nil {h : Heap} {as : List Addr} : Stand h [] as := fun _ h => nomatch h
theorem Stand.cons {h₀ h : Heap} {L b : Addr} {o : Obj} {led : Led} {bs as : List Addr} (N : News h₀ L h led) (hm : (b, o) ∈ led) (hn : b ∉ as) (r : Stand h bs as) : Stand h (b :: bs) as := fun c hc => by
  rcases List.mem_cons.mp hc with rfl | hc
  · exact ⟨⟨o, (N _ hm).1⟩, hn⟩
  · exact r c hc
theorem not_in3 {a b c d : Addr} (h1 : @Ne Nat a b) (h2 : @Ne Nat a c) (h3 : @Ne Nat a d) : a ∉ [b, c, d] := fun h => by
  rcases List.mem_cons.mp h with e | h
  · exact h1 e
  rcases List.mem_cons.mp h with e | h
  · exact h2 e
  · exact h3 (List.mem_singleton.mp h)
/-- between two rows -/
structure RowSt (ld : Str → Int) (place : Str) (rows : List Str) (i : Nat) (hs : List It) (tl tl' : Led) (load : Int) : Prop where
  sub : ∀ p ∈ tl, p ∈ tl'
  tups : Tups tl'
  pin : PIn tl' hs
  edges : Edges 0 hs
  perm : (hs.map (·.2)).Perm ((rows.take i).map rowKey)
  eqn : load = loadOf (rows.take i) (ld place)
noncomputable def rowNames (m : Str → Option Value) (P LD hp x1 x2 hu : Addr) (room load : Int) (t tl : Tok) (place : Str) (tp : Tok) : Prop :=
  And3 (cutNames m P LD hp x1 x2 room load t tl) (m (Str.ofString "hung") = some (.ref hu)) (m (Str.ofString "place") = some (.str place tp))
noncomputable def RowInv (w : World) (P LD hp x1 d1 l1 x2 d2 l2 hu yl : Addr) (t t1 t2 tp : Tok) (ld : Str → Int) (room : Int) (place : Str) (yts : List (Str × Tok)) (rest : List It) (hk ck : List HIt) (kk n1 n2 yn : Nat) (tl : Led) (i : Nat) (m : Str → Option Value) (led : Led) : Prop :=
  Ex5 fun (hs : List It) (kh : Nat) (tl' : Led) (load : Int) (tl0 : Tok) => And3 (led = (yl, listOf (valsS yts).toArray yn) :: (hu, listOf (valsI hs).toArray kh) :: cutL w hp x1 d1 l1 x2 d2 l2 t1 t2 rest hk ck kk n1 n2 tl') (rowNames m P LD hp x1 x2 hu room load t tl0 place tp) (RowSt ld place (yts.map (·.1)) i hs tl tl' load)
/-- while it is too heavy -/
structure HungSt (ld : Str → Int) (place : Str) (room : Int) (hs : List It) (ck0 ck : List HIt) (tl tl' : Led) (load : Int) (r : List Pr) (out : Int × List Kv) (nc : Nat) : Prop where
  sub : ∀ p ∈ tl, p ∈ tl'
  tups : Tups tl'
  pin : PIn tl' hs
  hin2 : HIn tl' ck
  edges : Edges 0 hs
  perm : (hs.map (·.2)).Perm r
  sorted : r.Pairwise leP
  keys : KeysOk r
  eqn : load = ld place - wsum r
  out : cutW place room r load (ck.map (·.2)) = out
  len : ck.length + hs.length ≤ nc
  cok : CutsOk (ck.map (·.2))
noncomputable def HungAt (w : World) (g : Heap) (L : Addr) (s : Shared) (P LD hp x1 d1 l1 x2 d2 l2 hu : Addr) (t t1 t2 tp : Tok) (ld : Str → Int) (room : Int) (place : Str) (rest : List It) (hk ck0 : List HIt) (kk n1 : Nat) (tl : Led) (out : Int × List Kv) (nc : Nat) (load : Int) (k : Nat) (s' : Shared) : Prop :=
  Ex10 fun (hs : List It) (ck : List HIt) (kh : Nat) (n2 : Nat) (tl' : Led) (m : Str → Option Value) (h : Heap) (tk : Nat) (tl0 : Tok) (r : List Pr) => And6 (s' = { s with heap := h, toks := tk }) (Fr g L h m) (News g L h ((hu, listOf (valsI hs).toArray kh) :: cutL w hp x1 d1 l1 x2 d2 l2 t1 t2 rest hk ck kk n1 n2 tl')) (k = hs.length) (rowNames m P LD hp x1 x2 hu room load t tl0 place tp) (HungSt ld place room hs ck0 ck tl tl' load r out nc)
theorem hung_while {w : World} {A : Around} {E : Value → Shared → Prop} {s s₀ : Shared} {g : Heap} {L : Addr} {m : Str → Option Value} {P LD hp x1 d1 l1 x2 d2 l2 hu : Addr} {t t1 t2 tp tl0 : Tok} {ld : Str → Int} {room load : Int} {place : Str} {hs rest : List It} {hk ck ck0 : List HIt} {kk kh n1 n2 nc : Nat} {tl tl' : Led} {r : List Pr} {out : Int × List Kv}
    {test : Expr} {body : List Stmt} {env : Env} {pos : Pos} {Q : Flow → Shared → Prop}
    (F : Fr g L s₀.heap m) (N : News g L s₀.heap ((hu, listOf (valsI hs).toArray kh) :: cutL w hp x1 d1 l1 x2 d2 l2 t1 t2 rest hk ck kk n1 n2 tl')) (hs₀ : ∃ h tk, s₀ = { s with heap := h, toks := tk }) (nm : rowNames m P LD hp x1 x2 hu room load t tl0 place tp) (st : HungSt ld place room hs ck0 ck tl tl' load r out nc)
    (turn : ∀ n s', (∃ load, HungAt w g L s P LD hp x1 d1 l1 x2 d2 l2 hu t t1 t2 tp ld room place rest hk ck0 kk n1 tl out nc load n s') → wpAny (model (PySem.Challenge.rw_il0086_01.row.prog) w) A (isTrue test env (eval test env)) (fun b s₂ =>
        if b then wpAny (model (PySem.Challenge.rw_il0086_01.row.prog) w) A (execs body env) (fun f s₃ => match f with
            | .next | .cont => Stopped (∃ m, m < n ∧ (∃ load, HungAt w g L s P LD hp x1 d1 l1 x2 d2 l2 hu t t1 t2 tp ld room place rest hk ck0 kk n1 tl out nc load m s₃))
            | .brk => Stopped False
            | .ret _ => False) (fun _ _ => False) s₂
        else Stopped (∃ load k, ¬ room < load ∧ HungAt w g L s P LD hp x1 d1 l1 x2 d2 l2 hu t t1 t2 tp ld room place rest hk ck0 kk n1 tl out nc load k s₂)) (fun _ _ => False) s')
    (rest' : ∀ st load k, ¬ room < load → HungAt w g L s P LD hp x1 d1 l1 x2 d2 l2 hu t t1 t2 tp ld room place rest hk ck0 kk n1 tl out nc load k st → Q .next st) : wpAny (model (PySem.Challenge.rw_il0086_01.row.prog) w) A (exec (.While test body [] pos) env) Q E s₀ := by
  obtain ⟨h, tk, rfl⟩ := hs₀
  refine while_cut (fun st => ∃ load k, ¬ room < load ∧ HungAt w g L s P LD hp x1 d1 l1 x2 d2 l2 hu t t1 t2 tp ld room place rest hk ck0 kk n1 tl out nc load k st) (fun n s' => (∃ load, HungAt w g L s P LD hp x1 d1 l1 x2 d2 l2 hu t t1 t2 tp ld room place rest hk ck0 kk n1 tl out nc load n s')) hs.length ⟨load, hs, ck, kh, n2, tl', m, h, tk, tl0, r, rfl, F, N, rfl, nm, st⟩ (fun n s' hI => ?_) (fun st ⟨load, k, h1, h2⟩ => rest' st load k h1 h2)
  refine wpAny_mono (turn n s' hI) (fun b s₂ h₂ => ?_) fun _ _ x => x
  cases b with
  | true =>
    simp only [if_true] at h₂ ⊢
    exact wpAny_mono h₂ (fun f s₃ h₃ => by cases f <;> first | exact h₃ | exact h₃.out.elim) fun _ _ x => x
  | false => exact h₂
theorem list_ne_inst {vs : Array Value} {n : Nat} {C d : Addr} : (listOf vs n).cls ≠ (instObj C d).cls := fun e => Value.noConfusion e
theorem list_ne_dict {vs : Array Value} {n : Nat} {w : World} {l : Addr} {t : Tok} : (listOf vs n).cls ≠ (hdD w l t).cls := fun e => absurd (Value.type.inj e) (by decide)
theorem cut_ne {w : World} {g h : Heap} {L hp x1 d1 l1 x2 d2 l2 : Addr} {t1 t2 : Tok} {its : List It} {hk ck : List HIt} {kk n1 n2 : Nat} {tl : Led} (N : News g L h (cutL w hp x1 d1 l1 x2 d2 l2 t1 t2 its hk ck kk n1 n2 tl)) (ht : Tups tl) :
    (@Ne Nat hp x2) ∧ (@Ne Nat hp d2) ∧ (@Ne Nat hp x1) ∧ (@Ne Nat hp d1) ∧ (@Ne Nat l2 x2) ∧ (@Ne Nat l2 d2) ∧ (@Ne Nat l2 x1) ∧ (@Ne Nat l2 d1) ∧ (@Ne Nat l1 x2) ∧ (@Ne Nat l1 d2) ∧ (@Ne Nat l1 x1) ∧ (@Ne Nat l1 d1) ∧ Off hp tl ∧ Off l2 tl ∧ Off l1 tl := by
  have mh : (hp, listOf (valsI its).toArray kk) ∈ cutL w hp x1 d1 l1 x2 d2 l2 t1 t2 its hk ck kk n1 n2 tl := .head _
  have mx2 : (x2, instObj 182 d2) ∈ cutL w hp x1 d1 l1 x2 d2 l2 t1 t2 its hk ck kk n1 n2 tl := .tail _ (.head _)
  have md2 : (d2, hdD w l2 t2) ∈ cutL w hp x1 d1 l1 x2 d2 l2 t1 t2 its hk ck kk n1 n2 tl := .tail _ (.tail _ (.head _))
  have ml2 : (l2, listOf (hvals ck).toArray n2) ∈ cutL w hp x1 d1 l1 x2 d2 l2 t1 t2 its hk ck kk n1 n2 tl := .tail _ (.tail _ (.tail _ (.head _)))
  have mx1 : (x1, instObj 182 d1) ∈ cutL w hp x1 d1 l1 x2 d2 l2 t1 t2 its hk ck kk n1 n2 tl := .tail _ (.tail _ (.tail _ (.tail _ (.head _))))
  have md1 : (d1, hdD w l1 t1) ∈ cutL w hp x1 d1 l1 x2 d2 l2 t1 t2 its hk ck kk n1 n2 tl := .tail _ (.tail _ (.tail _ (.tail _ (.tail _ (.head _)))))
  have ml1 : (l1, listOf (hvals hk).toArray n1) ∈ cutL w hp x1 d1 l1 x2 d2 l2 t1 t2 its hk ck kk n1 n2 tl := .tail _ (.tail _ (.tail _ (.tail _ (.tail _ (.tail _ (.head _))))))
  have mt : ∀ p ∈ tl, p ∈ cutL w hp x1 d1 l1 x2 d2 l2 t1 t2 its hk ck kk n1 n2 tl := fun p hp => .tail _ (.tail _ (.tail _ (.tail _ (.tail _ (.tail _ (.tail _ hp))))))
  have cl : ∀ {vs : Array Value} {n : Nat}, ∀ p ∈ tl, p.2.cls ≠ (listOf vs n).cls := fun p hp => by rw [ht p hp]; exact fun e => absurd (Value.type.inj e) (by decide)
  exact ⟨News.ne N mh mx2 list_ne_inst, News.ne N mh md2 list_ne_dict, News.ne N mh mx1 list_ne_inst, News.ne N mh md1 list_ne_dict, News.ne N ml2 mx2 list_ne_inst, News.ne N ml2 md2 list_ne_dict, News.ne N ml2 mx1 list_ne_inst, News.ne N ml2 md1 list_ne_dict,
    News.ne N ml1 mx2 list_ne_inst, News.ne N ml1 md2 list_ne_dict, News.ne N ml1 mx1 list_ne_inst, News.ne N ml1 md1 list_ne_dict, News.off N mh mt cl, News.off N ml2 mt cl, News.off N ml1 mt cl⟩
theorem upper_len {p : Str} (hp : p ∈ pl 7) : (Txt.upper p).length ≤ 16 := (pl_facts hp).2.2.2.2.2.2.1
theorem sub_drop2 {a b c : Addr × Obj} {r : Led} : ∀ p ∈ a :: b :: r, p ∈ a :: b :: c :: r := fun p hp => by
  simp only [List.mem_cons] at hp ⊢
  rcases hp with h | h | h <;> simp [h]
theorem sub_in1 {a b c d : Addr × Obj} {e f g h i j k : Addr × Obj} {r : Led} : ∀ p ∈ b :: c :: d :: e :: f :: g :: h :: i :: j :: k :: a :: r, p ∈ a :: b :: c :: d :: e :: f :: g :: h :: i :: j :: k :: r := fun _ hp => (List.perm_middle (l₁ := [b, c, d, e, f, g, h, i, j, k]) (l₂ := r) (a := a)).mem_iff.mp hp
theorem sub_in2 {a d : Addr × Obj} {e f g h i j k : Addr × Obj} {r : Led} : ∀ p ∈ d :: e :: f :: g :: h :: i :: j :: k :: a :: r, p ∈ a :: d :: e :: f :: g :: h :: i :: j :: k :: r := fun _ hp => (List.perm_middle (l₁ := [d, e, f, g, h, i, j, k]) (l₂ := r) (a := a)).mem_iff.mp hp
theorem sub_in3 {a d : Addr × Obj} {e f g h i j k : Addr × Obj} {r : Led} : ∀ p ∈ e :: f :: g :: h :: i :: j :: k :: a :: r, p ∈ a :: d :: e :: f :: g :: h :: i :: j :: k :: r := fun _ hp => (List.mem_cons.mp ((List.perm_middle (l₁ := [e, f, g, h, i, j, k]) (l₂ := r) (a := a)).mem_iff.mp hp)).elim (fun q => q ▸ .head _) (fun q => .tail _ (.tail _ q))
theorem cut_tl {w : World} {hp x1 d1 l1 x2 d2 l2 : Addr} {t1 t2 : Tok} {its : List It} {hk ck : List HIt} {kk n1 n2 : Nat} {tl : Led} : ∀ p ∈ tl, p ∈ cutL w hp x1 d1 l1 x2 d2 l2 t1 t2 its hk ck kk n1 n2 tl := fun _ hp => .tail _ (.tail _ (.tail _ (.tail _ (.tail _ (.tail _ (.tail _ hp))))))
theorem tups_not {tl : Led} {vs : Array Value} {n : Nat} (h : Tups tl) : ∀ p ∈ tl, p.2.cls ≠ (listOf vs n).cls := fun p hp => by rw [h p hp]; exact fun e => absurd (Value.type.inj e) (by decide)
theorem cut_liter {w : World} {hp x1 d1 l1 x2 d2 l2 : Addr} {t1 t2 : Tok} {its : List It} {hk ck : List HIt} {kk n1 n2 : Nat} {tl : Led} (h : Tups tl) : ∀ p ∈ cutL w hp x1 d1 l1 x2 d2 l2 t1 t2 its hk ck kk n1 n2 tl, p.2.cls ≠ .type "list_iterator" := by
  refine List.forall_mem_cons.mpr ⟨fun e => absurd (Value.type.inj e) (by decide), List.forall_mem_cons.mpr ⟨fun e => Value.noConfusion e, List.forall_mem_cons.mpr ⟨fun e => absurd (Value.type.inj e) (by decide), List.forall_mem_cons.mpr ⟨fun e => absurd (Value.type.inj e) (by decide),
    List.forall_mem_cons.mpr ⟨fun e => Value.noConfusion e, List.forall_mem_cons.mpr ⟨fun e => absurd (Value.type.inj e) (by decide), List.forall_mem_cons.mpr ⟨fun e => absurd (Value.type.inj e) (by decide), fun p hp => ?_⟩⟩⟩⟩⟩⟩⟩
  rw [h p hp]
  exact fun e => absurd (Value.type.inj e) (by decide)
theorem list_not_liter : (Value.type "list") ≠ .type "list_iterator" := fun e => absurd (Value.type.inj e) (by decide)
theorem loadOf_at {rows : List Str} {i : Nat} {x : Str} {l0 : Int} (h : rows[i]? = some x) : loadOf (rows.take (i + 1)) l0 = loadOf (rows.take i) l0 + Txt.count x barS := by
  unfold loadOf
  rw [take_at h, List.foldl_append]
  rfl
theorem wsum_nonpos {r : List Pr} (h : KeysOk r) : wsum r ≤ 0 := by
  induction r with
  | nil => exact Int.le_refl _
  | cons q r ih =>
    have h1 := (h q (.head _)).2.1
    have h2 := ih (fun x hx => h x (.tail _ hx))
    simp only [wsum, List.map_cons, List.sum_cons] at h2 ⊢
    lia
theorem wsum_cons {q : Pr} {r : List Pr} : wsum (q :: r) = q.1 + wsum r := by simp only [wsum, List.map_cons, List.sum_cons]
theorem perm_len {its : List It} {r : List Pr} (h : (its.map (·.2)).Perm r) : its.length = r.length := by
  have := h.length_eq
  rwa [List.length_map] at this
theorem hangOk_snoc {h : List Kv} (hk : HangOk h) {k : Str} {l : Int} {p : Str} (h1 : k ∈ pl 7) (h0 : 0 ≤ l) (h8 : l ≤ 8) (hp : p ∈ pl 7) : HangOk (h ++ [(k, rowS l p)]) := fun q hq => by
  rcases List.mem_append.mp hq with hq | hq
  · exact hk q hq
  · rw [List.mem_singleton.mp hq]
    exact ⟨h1, l, p, h0, h8, hp, rfl⟩
theorem turnP_eq {ld : Str → Int} {room load : Int} {st : St} {place : Str} {cuts : List Kv} (h : cutOf ld room st place = (load, cuts)) : turnP ld room st place = ⟨st.hang ++ [(dirS place, rowS load place)], cuts, load⟩ := by
  unfold turnP
  rw [h]
theorem sub_ret {a d e f g h i j : Addr × Obj} {r : Led} : ∀ p ∈ a :: (([g, e, f] : Led) ++ r), p ∈ a :: d :: e :: f :: g :: h :: i :: j :: r := fun p hp => by
  simp only [List.mem_cons, List.cons_append, List.nil_append] at hp ⊢
  rcases hp with h | h | h | h | h <;> simp [h]
end Mine
end
section
open PySem PySem.W PyProof.Rows PySem.Calls PySem.Spec
set_option maxRecDepth 100000
namespace Mine
structure CutRes (w : World) (ss : List Str) (ld : Str → Int) (room : Int) where
  T : Addr
  x : Addr
  d : Addr
  l : Addr
  u : Tok
  t : Tok
  its : List HIt
  n : Nat
  tl : Led
  hits : its.map (·.2) = (cutF ld room ss).cuts
  hin : HIn tl its
  tups : Tups tl
noncomputable def CutSpec (K : Params → Frag) (p : Program) (w : World) : Prop := ∀ (P LD : Addr) (ss : List Str) (ld : Str → Int) (room : Int) (t : Tok), ss.length ≤ 8 → (∀ p ∈ ss, p ∈ pl 7) → (∀ p ∈ ss, 0 ≤ ld p ∧ ld p ≤ room) → room ≤ 8 →
  CallOk K p w 341 [.ref P, .ref LD, .int room t] [] (fun h => StrsAt h P ss ∧ DictAt w h LD ss ld) [] 24 300 (fun _ v n₁ => ∃ y : CutRes w ss ld room, v = .ref y.T ∧ n₁ = (y.T, tup2 [.ref y.x, .int (cutF ld room ss).load y.u]) :: (hdL w y.x y.d y.l y.t y.its y.n ++ y.tl))
end Mine
end
section
open PySem PySem.W PyProof.Rows PySem.Calls PySem.Spec
set_option maxRecDepth 100000
namespace Mine
section
variable {K : Params → Frag} {p : Program} {w : World} {f : Addr} {args : List Value} {kw : List (Str × Value)} {pre : Heap → Prop} {n₀ : Led} {D U : Nat} {R : Heap → Value → Led → Prop}
  {mean : ExcName → Option Value} {mg mb : Str → Option Value} {dp un : Nat} {gd : Option (List Code)} {cn : Str} {cs : Scope} {a : Addr} {ccd : Value} {cl : List (Str × Addr)} {outer : List Env} {A₀ : Around} {base h₀ : Heap} {L : Addr} {m : Str → Option Value} {s : Shared} {Q E : Value → Shared → Prop}
/-- a def that lays new objects and turns nothing -/
theorem CallOk.useN {Y : Type} {val : Y → Value} {new : Y → Led} {led : Led}
    (C : CallOk K p w f args kw pre [] D U (fun _ v n => ∃ y, v = val y ∧ n = new y))
    (B : Below A₀ base outer h₀) (F : Fr h₀ L s.heap m) (X : (K w.params).In h₀) (N : News h₀ L s.heap led)
    (T : Top p (looseW p [Str.ofString "tspecials", Str.ofString "_name_disallowed_re", Str.ofString "_value_disallowed_re", Str.ofString "_formatparam"]) mean mg mb h₀) (hk : cs.kind = .function)
    (hd : dp + D < recursionLimit) (hu : un + U < cLine) (hp : pre s.heap)
    (ret : ∀ (y : Y) (h' : Heap) (tk' : Nat), Fr h₀ L h' m → News h₀ L h' (new y ++ led) → Q (val y) { s with heap := h', toks := tk' }) :
      wpAny (model PySem.Challenge.rw_il0086_01.row.prog w) (ktrTop dp un gd cn cs L a ccd cl outer) (call (.ref f) args kw) Q E s :=
  C.use B F X (News.sub N (fun _ h => nomatch h)) T hk hd hu hp (fun v n₁ h' tk' hR F' N' st => by
    obtain ⟨y, rfl, rfl⟩ := hR
    exact ret y h' tk' F' (News.app N' (News.stays N st (fun _ _ => List.not_mem_nil))))
end
theorem ints_of {vs : List Value} {ns : List Int} (h : IntsAre vs ns) : ∃ ts : TI, vs = valsN ts ∧ ts.map (·.1) = ns := by
  induction h with
  | nil => exact ⟨[], rfl, rfl⟩
  | cons n t _ ih =>
    obtain ⟨ts, h1, h2⟩ := ih
    exact ⟨(n, t) :: ts, by rw [h1]; rfl, by rw [List.map_cons, h2]⟩
theorem ints_at {h₀ h : Heap} {L a : Addr} {led : Led} {ts : TI} {n : Nat} (N : News h₀ L h led) (hm : (a, listOf (valsN ts).toArray n) ∈ led) : IntsAt h a (ts.map (·.1)) := ⟨ts, n, rfl, (N _ hm).1⟩
theorem strs_at {h₀ h : Heap} {L a : Addr} {led : Led} {ts : TS} {n : Nat} (N : News h₀ L h led) (hm : (a, listOf (valsS ts).toArray n) ∈ led) : StrsAt h a (ts.map (·.1)) := ⟨ts, n, rfl, (N _ hm).1⟩
theorem ints_atE {h₀ h : Heap} {L a : Addr} {led : Led} {ts : TI} {n : Nat} {ns : List Int} (N : News h₀ L h led) (hm : (a, listOf (valsN ts).toArray n) ∈ led) (e : ts.map (·.1) = ns) : IntsAt h a ns := e ▸ ints_at N hm
theorem strs_atE {h₀ h : Heap} {L a : Addr} {led : Led} {ts : TS} {n : Nat} {ns : List Str} (N : News h₀ L h led) (hm : (a, listOf (valsS ts).toArray n) ∈ led) (e : ts.map (·.1) = ns) : StrsAt h a ns := e ▸ strs_at N hm
section
variable {K : Params → Frag} {p : Program} {w : World} {f : Addr} {args : List Value} {kw : List (Str × Value)} {pre : Heap → Prop} {n₀ : Led} {D U : Nat} {R : Heap → Value → Led → Prop}
  {mean : ExcName → Option Value} {mg mb : Str → Option Value} {dp un : Nat} {gd : Option (List Code)} {cn : Str} {cs : Scope} {a : Addr} {ccd : Value} {cl : List (Str × Addr)} {outer : List Env} {A₀ : Around} {base h₀ : Heap} {L : Addr} {m : Str → Option Value} {s : Shared} {Q E : Value → Shared → Prop}
/-- a def that leaves its part of the ledger as it was and may lay new objects -/
theorem CallOk.useK {Y : Type} {val : Y → Value} {new : Y → Led} {led : Led}
    (C : CallOk K p w f args kw pre n₀ D U (fun _ v n => ∃ y, v = val y ∧ n = new y ++ n₀))
    (B : Below A₀ base outer h₀) (F : Fr h₀ L s.heap m) (X : (K w.params).In h₀) (N : News h₀ L s.heap led)
    (T : Top p (looseW p [Str.ofString "tspecials", Str.ofString "_name_disallowed_re", Str.ofString "_value_disallowed_re", Str.ofString "_formatparam"]) mean mg mb h₀) (hk : cs.kind = .function)
    (hd : dp + D < recursionLimit) (hu : un + U < cLine) (hp : pre s.heap) (h1 : ∀ p ∈ n₀, p ∈ led)
    (ret : ∀ (y : Y) (h' : Heap) (tk' : Nat), Fr h₀ L h' m → News h₀ L h' (new y ++ led) → Q (val y) { s with heap := h', toks := tk' }) :
      wpAny (model PySem.Challenge.rw_il0086_01.row.prog w) (ktrTop dp un gd cn cs L a ccd cl outer) (call (.ref f) args kw) Q E s :=
  C.use B F X (News.sub N h1) T hk hd hu hp (fun v n₁ h' tk' hR F' N' st => by
    obtain ⟨y, rfl, rfl⟩ := hR
    refine ret y h' tk' F' fun q hq => ?_
    rcases List.mem_append.mp hq with hq | hq
    · exact N' q (List.mem_append.mpr (.inl hq))
    · refine ⟨?_, (N q hq).2⟩
      by_cases hx : q.1 ∈ n₀.map (·.1)
      · obtain ⟨z, hz, e⟩ := List.mem_map.mp hx
        have e1 := (N q hq).1
        have e2 := (N z (h1 z hz)).1
        rw [e, e1] at e2
        have e3 : q = z := Prod.ext e.symm (Option.some.inj e2)
        rw [e3]
        exact (N' z (List.mem_append.mpr (.inr hz))).1
      · exact st _ _ (N q hq).1 hx)
end
/-- a cell is no list -/
theorem cells_off {h₀ h : Heap} {L a : Addr} {led : Led} {vs : Array Value} {n : Nat} (N : News h₀ L h led) (hm : (a, listOf vs n) ∈ led) : ∀ p ∈ led, (∃ ov, p.2.data = .cell ov) → @Ne Nat p.1 a := fun p hp hc e => by
  obtain ⟨ov, hc⟩ := hc
  have e1 := (N _ hm).1
  have e2 := (N p hp).1
  have e' : p.1 = a := e
  rw [e', e1] at e2
  have := Option.some.inj e2
  rw [← this] at hc
  cases hc
noncomputable def HeadSpecK (K : Params → Frag) (p : Program) (w : World) : Prop := ∀ (x d l : Addr) (t t2 : Tok) (its : List HIt) (n : Nat) (place : Str), hdLens its → place ∈ pl 7 →
  CallOk K p w 348 [.ref x, .str place t2] [] (fun h => HAt h its) (hdL w x d l t its n) 20 200 (fun _ v n₁ => ∃ y : Tok, v = .str (headF its 16 place) y ∧ n₁ = [] ++ hdL w x d l t its n)
end Mine
end
section
open PySem PySem.W PyProof.Rows PySem.Calls PySem.Spec
set_option maxRecDepth 100000
namespace Mine
theorem overF_snoc (ns : List Int) (x : Int) : overF (ns ++ [x]) = overStep (overF ns) x := by
  unfold overF; rw [List.foldl_append]; rfl
theorem over_bound (ns : List Int) : ∀ k, 1 ≤ k → k < (overF ns).length → 0 ≤ (overF ns).getD k 0 ∧ (overF ns).getD k 0 < (k : Int) := by
  suffices h : ∀ n (ns : List Int), ns.length = n → ∀ k, 1 ≤ k → k < (overF ns).length → 0 ≤ (overF ns).getD k 0 ∧ (overF ns).getD k 0 < (k : Int) from h _ ns rfl
  intro n
  induction n with
  | zero =>
    intro ns h k h1 h2
    rw [List.length_eq_zero_iff.mp h] at h2
    simp [overF] at h2
    lia
  | succ n ih =>
    intro ns h k h1 h2
    have hne : ns ≠ [] := by intro e; rw [e] at h; cases h
    have e : ns = ns.dropLast ++ [ns.getLast hne] := (List.dropLast_concat_getLast hne).symm
    generalize ns.getLast hne = x at e
    have hd : ns.dropLast.length = n := by rw [List.length_dropLast, h]; rfl
    generalize ns.dropLast = ms at e hd
    subst e
    rw [overF_len] at h2
    rw [overF_snoc]
    unfold overStep
    have hl := overF_len ms
    rcases Nat.lt_or_ge k (overF ms).length with hk | hk
    · rw [List.getD_eq_getElem?_getD, List.getElem?_append_left hk, ← List.getD_eq_getElem?_getD]
      exact ih ms hd k h1 hk
    · rw [List.length_append, List.length_singleton] at h2
      have e : k = (overF ms).length := by lia
      subst e
      rw [List.getD_eq_getElem?_getD, List.getElem?_append_right (Nat.le_refl _), Nat.sub_self]
      simp only [List.getElem?_cons_zero, Option.getD_some]
      have hp : (0 : Int) < ((overF ms).length : Int) := by lia
      exact ⟨Int.fmod_nonneg_of_pos _ hp, Int.fmod_lt_of_pos _ hp⟩
theorem over_ok {ns : List Int} (h : ns.length ≤ 7) : OverOk (overF ns) := ⟨by rw [overF_len]; lia, by rw [overF_len]; lia, over_bound ns⟩
/-- the loads -/
noncomputable def loadsF (ns : List Int) : List Int := 2 :: ns.map fun x => x.fmod 5 + 1
theorem loadsF_len (ns : List Int) : (loadsF ns).length = ns.length + 1 := by simp [loadsF]
end Mine
end
section
open PySem PySem.W PyProof.Rows PySem.Calls PySem.Spec PyProof.V
set_option maxRecDepth 100000
namespace Mine
theorem zip_getattr_none : typeLookup (.type "zip") "__getattr__" = pure none := am_miss_of_fast (by kernel_rfl)
theorem zip_keys_none : typeLookup (.type "zip") "keys" = pure none := am_miss_of_fast (by kernel_rfl)
theorem zip_entry_ga : entryFor table "zip.__getattribute__" = some Builtin.«object.__getattribute__» :=
  entryFor_alias (id' := "object.__getattribute__") (by kernel_rfl) (by decide +kernel) (by decide +kernel) (by kernel_rfl)
/-- a zip at work: its mark, its flag -/
noncomputable abbrev ZipAt (h : Heap) (z TI TO : Addr) (f0 f1 : Value) : Prop :=
  h.get? z = some { cls := .type "zip", dict := none, data := .fields #[f0, f1, .bool false, .ref TI, .ref TO], slots := #[] }
theorem zip_keys_miss (z TI TO : Addr) (f0 f1 : Value) (u : Tok) :
    Meets (Builtin.«object.__getattribute__» ⟨[.ref z, .str "keys" u], []⟩) (fun A R s => ZipAt s.heap z TI TO f0 f1 ∧ raisesAttr (.ref z) "keys" A R s) :=
  Meets.of_wp fun prog w A R s hs => by
    obtain ⟨hp, g, d, tk, os⟩ := s
    obtain ⟨hx, hs⟩ := hs
    have hT : (⟨hp, g, d, tk, os⟩ : Shared).TypeIs (.ref z) "zip" := ⟨_, hx, rfl⟩
    have hmiss := zip_keys_none
    have hname : (["__module__", "__name__", "__qualname__", "__doc__", "__annotations__"] : List Str).contains "keys" = false := by decide +kernel
    unfold Builtin.«object.__getattribute__»
    repeat (any_goals (first | assumption | wp_step))
    try simp only [hname, Bool.false_eq_true, if_false]
    repeat (any_goals (first | assumption | wp_step))
    exact wpAny_raiseAttrError hs.1 hs.2 (attrMsg_fits (by decide +kernel) (by decide +kernel))
section
variable {prog : Program} {w : World} {A : Around} {E : Value → Shared → Prop} {s : Shared}
theorem zip_no_keys {z TI TO : Addr} {f0 f1 : Value} {Q : Option Value → Shared → Prop} (hx : ZipAt s.heap z TI TO f0 f1) (hA : A.handled = none)
    (h : ∀ h' tk, (∀ b o, s.heap.get? b = some o → h'.get? b = some o) → Q none { s with heap := h', toks := tk }) : wpAny (model prog w) A (getAttr? (.ref z) "keys") Q E s := by
  obtain ⟨hp, g, d, tk, os⟩ := s
  have hT : ∀ tk', (⟨hp, g, d, tk', os⟩ : Shared).TypeIs (.ref z) "zip" := fun _ => ⟨_, hx, rfl⟩
  have f1 := sub_AttributeError
  have f3 := F.slot_zip_getattribute.lookup
  have f4 := F.slot_zip_getattribute.bind (.ref z)
  have f5 := zip_getattr_none
  unfold getAttr? getAttrBy? getAttrBy
  repeat (any_goals (first | assumption | exact hT _ | ((with_reducible show wpAny _ _ (call (Value.builtin "zip.__getattribute__") _ _) _ _ _); refine call_meets F.slot_zip_getattribute (hT _) zip_entry_ga (F.args_zip_getattribute_2 _ _) (zip_keys_miss z TI TO _ _ _) ⟨hx, hA, fun h' tk' e hx' => ?_⟩) | wp_step))
  obtain ⟨t', u', he⟩ := hx'.there
  show wpAny _ _ (getattributeRaised _ _ _ _ _ _ _) _ _ _
  unfold getattributeRaised
  repeat (any_goals (first | assumption | wp_step))
  exact h _ _ hx'.keeps
end
end Mine
end
section
open PySem PySem.W PyProof.Rows PySem.Calls PySem.Spec PyProof.V
set_option maxRecDepth 100000
namespace Mine
section
variable {prog : Program} {w : World} {A : Around} {E : Value → Shared → Prop} {s : Shared}
theorem wpAny_ifAlive {α : Type} {a : Addr} {k : Option Obj → Sem α} {Q : α → Shared → Prop} (h : wpAny (model prog w) A (k (s.heap.get? a)) Q E s) : wpAny (model prog w) A (loadIfAlive a >>= k) Q E s := fun Γ p hΓ => h Γ p hΓ
theorem owned_not {z TI TO T : Addr} {f1 : Value} {oT : Obj} (hf1 : f1 = .bool false ∨ f1 = .bool true) (hz : ZipAt s.heap z TI TO (rawInt T) f1) (hT : s.heap.get? T = some oT) :
    wpAny (model prog w) A (Builtin.SmallTypes.ownedTupleIsFree (.ref z)) (fun b s' => b = false ∧ ∃ h₁, s' = { s with heap := h₁ } ∧ ZipAt h₁ z TI TO (rawInt T) (.bool true) ∧ Heap.SameBut z s.heap h₁) E s := by
  unfold Builtin.SmallTypes.ownedTupleIsFree
  refine wpAny_bind (wpAny_field hz rfl (x := rawInt T) rfl ?_)
  show wpAny _ _ (loadIfAlive (Int.toNat (T : Nat)) >>= _) _ _ _
  refine wpAny_ifAlive ?_
  rw [Int.toNat_natCast, hT]
  simp only [Option.isNone_some, Bool.false_eq_true, if_false]
  refine wpAny_bind (wpAny_field hz rfl (x := f1) rfl ?_)
  rcases hf1 with rfl | rfl
  · rw [if_pos (by decide)]
    exact wpAny_bind (wpAny_setField_rec hz (by simp) fun h₁ hz₁ hs₁ => wpAny_pure ⟨rfl, h₁, rfl, hz₁, hs₁⟩)
  · rw [if_neg (by decide)]
    exact wpAny_pure ⟨rfl, s.heap, rfl, hz, Heap.SameBut.refl _ _⟩
/-- a zip whose last tuple is still about -/
theorem zip_more {z TI TO T i1 i2 l1 l2 : Addr} {k1 k2 : Nat} {xs ys : Array Value} {f1 x y : Value} {oT : Obj} {Q : PySem.Fin → Shared → Prop} (D : ZipApart z TI TO i1 i2 l1 l2) (hf1 : f1 = .bool false ∨ f1 = .bool true)
    (hz : ZipAt s.heap z TI TO (rawInt T) f1) (hTI : IsPair s.heap TI (.ref i1) (.ref i2)) (hT : s.heap.get? T = some oT)
    (h1 : s.heap.IsListIter i1 l1 k1) (h2 : s.heap.IsListIter i2 l2 k2) (hl1 : s.heap.IsList l1 xs) (hl2 : s.heap.IsList l2 ys) (hx : xs[k1]? = some x) (hy : ys[k2]? = some y)
    (hQ : ∀ h', ZipAt h' z TI TO (rawInt T) (.bool true) → h'.IsListIter i1 l1 (k1 + 1) → h'.IsListIter i2 l2 (k2 + 1) → IsPair h' s.heap.objs.size x y → h'.objs.size = s.heap.objs.size + 1 →
      (∀ c o, c ≠ z → c ≠ i1 → c ≠ i2 → s.heap.get? c = some o → h'.get? c = some o) → Q (.done (.ret (.ref s.heap.objs.size))) { s with heap := h' }) :
    wpAny (model prog w) A (Builtin.«zip.__next__» ⟨[.ref z], []⟩) Q E s := by
  show wpAny _ _ (field (.ref z) 2 >>= _) _ _ _
  refine wpAny_bind (wpAny_field hz rfl (x := .bool false) rfl ?_)
  show wpAny _ _ (field (.ref z) 3 >>= _) _ _ _
  refine wpAny_bind (wpAny_field hz rfl (x := .ref TI) rfl ?_)
  refine wpAny_bind (wpAny_seqItems hTI rfl ?_)
  show wpAny _ _ (Builtin.SmallTypes.ownedTupleIsFree (.ref z) >>= _) _ _ _
  refine wpAny_bind (wpAny_mono (owned_not hf1 hz hT) (fun b s' hb => ?_) fun _ _ e => e)
  obtain ⟨rfl, h₁, rfl, hz₁, hs₁⟩ := hb
  simp only [Bool.false_eq_true, if_false]
  refine wpAny_bind ?_
  show wpAny _ _ (forIn (#[Value.ref i1, Value.ref i2] : Array Value) _ _) _ _ _
  rw [← Array.forIn_toList]
  simp only [List.forIn_cons, List.forIn_nil]
  refine wpAny_bind (wpAny_bind (wpAny_holding ?_))
  show wpAny _ _ (Builtin.SmallTypes.nextOf (.ref i1) >>= _) _ _ _
  refine wpAny_bind (wpAny_nextOf_list_item (h1.extBut hs₁.extBut D.i1z) (hl1.extBut hs₁.extBut D.l1z) hx fun h₂ h1₂ hs₂ => wpAny_pure ?_)
  refine wpAny_pure ?_
  refine wpAny_bind (wpAny_bind (wpAny_holding ?_))
  show wpAny _ _ (Builtin.SmallTypes.nextOf (.ref i2) >>= _) _ _ _
  refine wpAny_bind (wpAny_nextOf_list_item ((h2.extBut hs₁.extBut D.i2z).extBut hs₂.extBut D.i12.symm) ((hl2.extBut hs₁.extBut D.l2z).extBut hs₂.extBut D.l2i1) hy fun h₃ h2₃ hs₃ => wpAny_pure ?_)
  refine wpAny_pure (wpAny_pure ?_)
  refine wpAny_bind (wpAny_newTuple ?_ (show (2 : Nat) ≤ sizeLine by rw [sizeLine_eq]; lia))
  refine wpAny_pure ?_
  have hsz : h₃.objs.size = s.heap.objs.size := by rw [hs₃.1, hs₂.1, hs₁.1]
  have up : ∀ c o, h₃.get? c = some o → (h₃.push { cls := .type "tuple", data := .seq #[x, y] }).get? c = some o := fun c o e => Heap.get?_push_of_some _ e
  show Q (.done (.ret (.ref h₃.objs.size))) { s with heap := h₃.push { cls := .type "tuple", data := .seq #[x, y] } }
  rw [hsz]
  refine hQ _ (up _ _ (hs₃.extBut _ _ D.i2z.symm (hs₂.extBut _ _ D.i1z.symm hz₁))) ((h1₂.extBut hs₃.extBut D.i12).at fun o e => up _ o e) (h2₃.at fun o e => up _ o e) ?_ (by rw [Heap.size_push, hsz])
    (fun c o c1 c2 c3 e => up _ _ (hs₃.extBut _ _ c3 (hs₂.extBut _ _ c2 (hs₁.extBut _ _ c1 e))))
  have := Heap.get?_push_size h₃ (o := { cls := .type "tuple", data := .seq #[x, y] }) rfl
  rw [hsz] at this
  exact this
theorem zip_over {z TI TO T i1 i2 l1 l2 : Addr} {k1 k2 : Nat} {xs ys : Array Value} {f1 : Value} {oT : Obj} {Q : PySem.Fin → Shared → Prop} (hh : A.handled = none) (D : ZipApart z TI TO i1 i2 l1 l2) (hf1 : f1 = .bool false ∨ f1 = .bool true)
    (hz : ZipAt s.heap z TI TO (rawInt T) f1) (hTI : IsPair s.heap TI (.ref i1) (.ref i2)) (hT : s.heap.get? T = some oT)
    (h1 : s.heap.IsListIter i1 l1 k1) (hl1 : s.heap.IsList l1 xs) (hx : xs[k1]? = none)
    (hE : ∀ h' e, (∀ c o, c ≠ z → c ≠ i1 → c ≠ i2 → s.heap.get? c = some o → h'.get? c = some o) → (∃ o, h'.get? e = some o ∧ o.cls = .type "StopIteration") → E (.ref e) { s with heap := h' }) :
    wpAny (model prog w) A (Builtin.«zip.__next__» ⟨[.ref z], []⟩) Q E s := by
  show wpAny _ _ (field (.ref z) 2 >>= _) _ _ _
  refine wpAny_bind (wpAny_field hz rfl (x := .bool false) rfl ?_)
  show wpAny _ _ (field (.ref z) 3 >>= _) _ _ _
  refine wpAny_bind (wpAny_field hz rfl (x := .ref TI) rfl ?_)
  refine wpAny_bind (wpAny_seqItems hTI rfl ?_)
  show wpAny _ _ (Builtin.SmallTypes.ownedTupleIsFree (.ref z) >>= _) _ _ _
  refine wpAny_bind (wpAny_mono (owned_not hf1 hz hT) (fun b s' hb => ?_) fun _ _ e => e)
  obtain ⟨rfl, h₁, rfl, hz₁, hs₁⟩ := hb
  simp only [Bool.false_eq_true, if_false]
  refine wpAny_bind ?_
  show wpAny _ _ (forIn (#[Value.ref i1, Value.ref i2] : Array Value) _ _) _ _ _
  rw [← Array.forIn_toList]
  simp only [List.forIn_cons, List.forIn_nil]
  refine wpAny_bind (wpAny_bind (wpAny_holding ?_))
  show wpAny _ _ (Builtin.SmallTypes.nextOf (.ref i1) >>= _) _ _ _
  exact wpAny_bind (wpAny_nextOf_list_end hh (h1.extBut hs₁.extBut D.i1z) (hl1.extBut hs₁.extBut D.l1z) hx fun h₂ e hs₂ he => hE h₂ e (fun c o c1 c2 _ x => hs₂ _ _ c2 (hs₁.extBut _ _ c1 x)) he)
theorem next_more {z TI TO T i1 i2 l1 l2 : Addr} {k1 k2 : Nat} {xs ys : Array Value} {f1 x y : Value} {oT : Obj} {Q : Option Value → Shared → Prop} (D : ZipApart z TI TO i1 i2 l1 l2) (hf1 : f1 = .bool false ∨ f1 = .bool true)
    (hz : ZipAt s.heap z TI TO (rawInt T) f1) (hTI : IsPair s.heap TI (.ref i1) (.ref i2)) (hT : s.heap.get? T = some oT)
    (h1 : s.heap.IsListIter i1 l1 k1) (h2 : s.heap.IsListIter i2 l2 k2) (hl1 : s.heap.IsList l1 xs) (hl2 : s.heap.IsList l2 ys) (hx : xs[k1]? = some x) (hy : ys[k2]? = some y)
    (hQ : ∀ h', ZipAt h' z TI TO (rawInt T) (.bool true) → h'.IsListIter i1 l1 (k1 + 1) → h'.IsListIter i2 l2 (k2 + 1) → IsPair h' s.heap.objs.size x y → h'.objs.size = s.heap.objs.size + 1 →
      (∀ c o, c ≠ z → c ≠ i1 → c ≠ i2 → s.heap.get? c = some o → h'.get? c = some o) → Q (some (.ref s.heap.objs.size)) { s with heap := h' }) :
    wpAny (model prog w) A (pyNext (.ref z)) Q E s := by
  have hTz : s.TypeIs (.ref z) "zip" := ⟨_, hz, rfl⟩
  unfold pyNext
  exact wpAny_bind (wpAny_attempt (wpAny_callSpecial?_slot (name := Str.ofString "__next__") hTz F.slot_zip_next
    (wpAny_call_entry F.slot_zip_next hTz F.entry_zip_next
      (zip_more D hf1 hz hTI hT h1 h2 hl1 hl2 hx hy fun h' a1 a2 a3 a4 a5 a6 => ⟨_, rfl, wpAny_pure (hQ h' a1 a2 a3 a4 a5 a6)⟩) (F.args_zip_next_1 _))))
theorem next_over {z TI TO T i1 i2 l1 l2 : Addr} {k1 k2 : Nat} {xs ys : Array Value} {f1 : Value} {oT : Obj} {Q : Option Value → Shared → Prop} (hh : A.handled = none) (D : ZipApart z TI TO i1 i2 l1 l2) (hf1 : f1 = .bool false ∨ f1 = .bool true)
    (hz : ZipAt s.heap z TI TO (rawInt T) f1) (hTI : IsPair s.heap TI (.ref i1) (.ref i2)) (hT : s.heap.get? T = some oT)
    (h1 : s.heap.IsListIter i1 l1 k1) (hl1 : s.heap.IsList l1 xs) (hx : xs[k1]? = none)
    (hQ : ∀ h', (∀ c o, c ≠ z → c ≠ i1 → c ≠ i2 → s.heap.get? c = some o → h'.get? c = some o) → Q none { s with heap := h' }) :
    wpAny (model prog w) A (pyNext (.ref z)) Q E s := by
  have hTz : s.TypeIs (.ref z) "zip" := ⟨_, hz, rfl⟩
  unfold pyNext
  refine wpAny_bind (wpAny_attempt (wpAny_callSpecial?_slot (name := Str.ofString "__next__") hTz F.slot_zip_next
    (wpAny_call_entry F.slot_zip_next hTz F.entry_zip_next (zip_over (k1 := k1) (k2 := k2) (xs := xs) (ys := ys) hh D hf1 hz hTI hT h1 hl1 hx fun h' e hk he => ?_) (F.args_zip_next_1 _))))
  obtain ⟨o, ho, hc⟩ := he
  refine wpAny_bind (wpAny_isInstance (T := "StopIteration") (b := true) ⟨o, ho, hc⟩ isSubtype_stop ?_)
  exact wpAny_pure (hQ _ hk)
end
end Mine
end
section
open PySem PySem.W PyProof.Rows PySem.Calls PySem.Spec PyProof.V
set_option maxRecDepth 100000
namespace Mine
theorem plain_dul : plainId "dict.update.loop" = true := by decide +kernel
theorem entry_dul : entryFor table "dict.update.loop" = some Builtin.«dict.update.loop» := entryFor_of_tree (by kernel_rfl)
section
variable {prog : Program} {w : World} {A : Around} {E : Value → Shared → Prop} {s : Shared} {R : Result → Shared → Prop}
theorem loop_turn {d z : Addr} {c : Int}
    (hn : wpAny (model prog w) A.in1 (pyNext (.ref z)) (fun r s₁ => match r with
      | none => R (.ok (.ret .none)) s₁
      | some v => ∃ (T' : Addr) (x : Str) (t : Tok) (val : Value) (kvs : List (Str × Value)), v = .ref T' ∧ IsPair s₁.heap T' (.str x t) val ∧ s₁.heap.DictOf (PySem.strKind prog w) d kvs ∧ valueAt kvs x = none ∧ kvs.length ≤ 1000 ∧
          ∀ h' tk, h'.DictOf (PySem.strKind prog w) d (kvs ++ [(x, val)]) → Heap.SameBut d s₁.heap h' → codeAny (model prog w) A (.builtin "dict.update.loop" ⟨[.ref d, .ref z, rawInt (c + 1), .none], []⟩) R { s₁ with heap := h', toks := tk }) (fun _ _ => False) s) :
    codeAny (model prog w) A (.builtin "dict.update.loop" ⟨[.ref d, .ref z, rawInt c, .none], []⟩) R s := by
  refine codeAny_builtin entry_dul ?_
  rw [Around.under_plainId plain_dul _]
  unfold Builtin.«dict.update.loop»
  show wpAny _ A.in1 (pyNext (.ref z) >>= _) _ _ _
  refine wpAny_bind (wpAny_mono hn (fun r s₁ h₁ => ?_) fun _ _ e => e.elim)
  cases r with
  | none =>
    show wpAny _ A.in1 (Builtin.Dict.addKeywords d [] >>= _) _ _ _
    exact wpAny_bind (wpAny_pure (wpAny_pure h₁))
  | some v =>
    obtain ⟨T', x, t, val, kvs, rfl, hT', hd, hnew, hlen, k⟩ := h₁
    have hTT : s₁.TypeIs (.ref T') "tuple" := ⟨_, hT', rfl⟩
    refine wpAny_bind (wpAny_holding ?_)
    show wpAny _ A.in1 (tryCatch (Builtin.Dict.pairItems (.ref T')) _ >>= _) _ _ _
    refine wpAny_bind (wpAny_tryCatch ?_)
    unfold Builtin.Dict.pairItems
    refine wpAny_bind (wpAny_typeOf hTT ?_)
    rw [if_pos (by decide)]
    refine wpAny_bind (wpAny_seqItems hT' rfl ?_)
    refine wpAny_pure ?_
    show wpAny _ A.in1 (holding [.str x t, val] (dictSet d (.str x t) val)) _ _ _
    refine wpAny_holding (wpAny_dictSet_pairs (knd := PySem.strKind prog w) (k := x) (strKind_is _ _ _ _) hd (fun h' hd' hs' => ?_) (by rw [sizeLine_eq]; lia))
    rw [stored_absent hnew] at hd'
    show wpAny _ A.in1 (again (.builtin "dict.update.loop" ⟨[.ref d, .ref z, rawInt (c + 1), .none], []⟩)) _ _ _
    exact wpAny_pure ⟨plainId_quiet plain_dul _, k h' _ hd' hs'⟩
end
end Mine
end
section
open PySem PySem.W PyProof.Rows PySem.Calls PySem.Spec PyProof.V
set_option maxRecDepth 100000
namespace Mine
noncomputable def kvD (pts : TS) (lts : List (Int × Tok)) (i : Nat) : List (Str × Value) := ((pts.zip lts).take i).map fun q => (q.1.1, Value.int q.2.1 q.2.2)
theorem kvD_at {pts : TS} {lts : List (Int × Tok)} {i : Nat} {p : Str × Tok} {l : Int × Tok} (hp : pts[i]? = some p) (hl : lts[i]? = some l) : kvD pts lts (i + 1) = kvD pts lts i ++ [(p.1, Value.int l.1 l.2)] := by
  unfold kvD
  have hz : (pts.zip lts)[i]? = some (p, l) := by rw [List.getElem?_zip_eq_some]; exact ⟨hp, hl⟩
  rw [take_at hz, List.map_append]
  rfl
theorem kvD_len {pts : TS} {lts : List (Int × Tok)} {i : Nat} : (kvD pts lts i).length ≤ i := by
  unfold kvD; rw [List.length_map, List.length_take]; exact Nat.min_le_left _ _
theorem kvD_keys {pts : TS} {lts : List (Int × Tok)} {i : Nat} (h : pts.length = lts.length) : (kvD pts lts i).map (·.1) = (pts.map (·.1)).take i := by
  unfold kvD
  rw [List.map_map, List.map_take, ← List.map_take (l := pts)]
  have : (pts.zip lts).map (fun q => q.1.1) = pts.map (·.1) := by
    have h2 : (pts.zip lts).map Prod.fst = pts := List.map_fst_zip (by lia)
    calc (pts.zip lts).map (fun q => q.1.1) = ((pts.zip lts).map Prod.fst).map (·.1) := by rw [List.map_map]; rfl
      _ = pts.map (·.1) := by rw [h2]
  show ((pts.zip lts).map (fun q => q.1.1)).take i = _
  rw [this, List.map_take]
theorem kvD_new {pts : TS} {lts : List (Int × Tok)} {i : Nat} {p : Str × Tok} (h : pts.length = lts.length) (hn : (pts.map (·.1)).Nodup) (hp : pts[i]? = some p) : valueAt (kvD pts lts i) p.1 = none := by
  cases hv : valueAt (kvD pts lts i) p.1 with
  | none => rfl
  | some v =>
    exfalso
    have hm : p.1 ∈ (kvD pts lts i).map (·.1) := by
      unfold valueAt at hv
      obtain ⟨q, hq, _⟩ := Option.map_eq_some_iff.mp hv
      have h1 := List.mem_of_find?_eq_some hq
      have h2 := List.find?_some hq
      have : q.1 = p.1 := by simpa using h2
      exact this ▸ List.mem_map_of_mem h1
    rw [kvD_keys h] at hm
    obtain ⟨j, hj, e⟩ := List.mem_iff_getElem.mp hm
    rw [List.length_take] at hj
    rw [List.getElem_take] at e
    have hi : i < pts.length := by
      rcases Nat.lt_or_ge i pts.length with h | h
      · exact h
      · rw [List.getElem?_eq_none h] at hp; cases hp
    have ei : (pts.map (·.1))[i]'(by rw [List.length_map]; exact hi) = p.1 := by
      rw [List.getElem_map]
      rw [List.getElem?_eq_getElem hi] at hp
      rw [Option.some.inj hp]
    have := (List.getElem_inj (h₀ := by lia) (h₁ := by rw [List.length_map]; exact hi) hn).mp (e.trans ei.symm)
    lia
section
variable {prog : Program} {w : World} {A : Around} {E : Value → Shared → Prop} {s : Shared} {R : Result → Shared → Prop}
structure ZS (prog : Program) (w : World) (h₁ h : Heap) (z TI TO i1 i2 l1 l2 d : Addr) (pts : TS) (lts : List (Int × Tok)) (i : Nat) : Prop where
  zip : ∃ (T : Addr) (f1 : Value) (oT : Obj), (f1 = .bool false ∨ f1 = .bool true) ∧ ZipAt h z TI TO (rawInt (T : Nat)) f1 ∧ h.get? T = some oT ∧ T ≠ d ∧ T ≠ z ∧ T ≠ i1 ∧ T ≠ i2
  ti : IsPair h TI (.ref i1) (.ref i2)
  it1 : h.IsListIter i1 l1 i
  it2 : h.IsListIter i2 l2 i
  li1 : h.IsList l1 (valsS pts).toArray
  li2 : h.IsList l2 (valsN lts).toArray
  dict : h.DictOf (PySem.strKind prog w) d (kvD pts lts i)
  keep : ∀ b o, b ≠ z → b ≠ TO → b ≠ i1 → b ≠ i2 → b ≠ d → h₁.get? b = some o → h.get? b = some o
structure DApart (d z TI TO i1 i2 l1 l2 : Addr) : Prop where
  z : d ≠ z
  TI : d ≠ TI
  i1 : d ≠ i1
  i2 : d ≠ i2
  l1 : d ≠ l1
  l2 : d ≠ l2
theorem iter_at {h h' : Heap} {I l : Addr} {i : Nat} {a : Addr} (x : h.IsListIter I l i) (hs : Heap.SameBut a h h') (n : I ≠ a) : h'.IsListIter I l i := x.at fun o e => hs.extBut _ o n e
theorem dict_turns {h₁ : Heap} {z TI TO i1 i2 l1 l2 d : Addr} {pts : TS} {lts : List (Int × Tok)} {n : Nat} (hh : A.handled = none) (D : ZipApart z TI TO i1 i2 l1 l2) (DA : DApart d z TI TO i1 i2 l1 l2) (hp : pts.length = n) (hl : lts.length = n) (hn : (pts.map (·.1)).Nodup) (hz : n ≤ 1000) (s₀ : Shared)
    (hR : ∀ h tk, h.DictOf (PySem.strKind prog w) d (kvD pts lts n) → (∀ b o, b ≠ z → b ≠ TO → b ≠ i1 → b ≠ i2 → b ≠ d → h₁.get? b = some o → h.get? b = some o) → R (.ok (.ret .none)) { s₀ with heap := h, toks := tk }) :
    ∀ (j i : Nat) (c : Int) (h : Heap) (tk : Nat), i + j = n → ZS prog w h₁ h z TI TO i1 i2 l1 l2 d pts lts i → codeAny (model prog w) A (.builtin "dict.update.loop" ⟨[.ref d, .ref z, rawInt c, .none], []⟩) R { s₀ with heap := h, toks := tk } := by
  intro j
  induction j with
  | zero =>
    intro i c h tk e S
    have e : i = n := e
    subst e
    obtain ⟨T, f1, oT, hf1, hzA, hT, t1, t2, t3, t4⟩ := S.zip
    refine loop_turn (next_over (k2 := i) (ys := (valsN lts).toArray) (by exact hh) D hf1 hzA S.ti hT S.it1 S.li1 (by rw [List.getElem?_toArray, List.getElem?_eq_none (by rw [List.length_map]; lia)]) fun h' hk => ?_)
    refine hR h' tk ?_ (fun b o b1 b2 b3 b4 b5 eo => hk b o b1 b3 b4 (S.keep b o b1 b2 b3 b4 b5 eo))
    obtain ⟨o, es, ep, ho, r⟩ := S.dict
    exact ⟨o, es, ep, hk _ _ DA.z DA.i1 DA.i2 ho, r⟩
  | succ j ih =>
    intro i c h tk e S
    have hi1 : i < pts.length := by lia
    have hi2 : i < lts.length := by lia
    obtain ⟨T, f1, oT, hf1, hzA, hT, t1, t2, t3, t4⟩ := S.zip
    have hx : (valsS pts).toArray[i]? = some (.str (pts[i]).1 (pts[i]).2) := by rw [List.getElem?_toArray, List.getElem?_map, List.getElem?_eq_getElem hi1]; rfl
    have hy : (valsN lts).toArray[i]? = some (.int (lts[i]).1 (lts[i]).2) := by rw [List.getElem?_toArray, List.getElem?_map, List.getElem?_eq_getElem hi2]; rfl
    have hp' := List.getElem?_eq_getElem hi1
    have hl' := List.getElem?_eq_getElem hi2
    refine loop_turn (next_more D hf1 hzA S.ti hT S.it1 S.it2 S.li1 S.li2 hx hy fun h' a1 a2 a3 a4 a5 a6 => ?_)
    obtain ⟨od, es, ep, ho, r⟩ := S.dict
    have hd' : h'.DictOf (PySem.strKind prog w) d (kvD pts lts i) := ⟨od, es, ep, a6 _ _ DA.z DA.i1 DA.i2 ho, r⟩
    refine ⟨_, _, _, _, _, rfl, a4, hd', kvD_new (by lia) hn hp', by have := kvD_len (pts := pts) (lts := lts) (i := i); lia, fun h2 tk2 hd2 hs2 => ?_⟩
    rw [← kvD_at hp' hl'] at hd2
    have up : ∀ c o, c ≠ z → c ≠ i1 → c ≠ i2 → c ≠ d → h.get? c = some o → h2.get? c = some o := fun c o c1 c2 c3 c4 eo => hs2.extBut _ _ c4 (a6 _ _ c1 c2 c3 eo)
    refine ih (i + 1) (c + 1) h2 tk2 (by lia) ⟨⟨T, .bool true, oT, .inr rfl, hs2.extBut _ _ (Ne.symm DA.z) a1, up _ _ t2 t3 t4 t1 hT, t1, t2, t3, t4⟩, up _ _ D.TIz D.TIi1 D.TIi2 (Ne.symm DA.TI) S.ti, iter_at a2 hs2 (Ne.symm DA.i1), iter_at a3 hs2 (Ne.symm DA.i2),
      S.li1.at fun o eo => up _ o D.l1z D.l1i1 D.l1i2 (Ne.symm DA.l1) eo, S.li2.at fun o eo => up _ o D.l2z D.l2i1 D.l2i2 (Ne.symm DA.l2) eo, hd2, fun b o b1 b2 b3 b4 b5 eo => up b o b1 b3 b4 b5 (S.keep b o b1 b2 b3 b4 b5 eo)⟩
end
end Mine
end
section
open PySem PySem.W PyProof.Rows PySem.Calls PySem.Spec PyProof.V
set_option maxRecDepth 100000
namespace Mine
structure ZipSt (h₀ : Heap) (L : Addr) (h : Heap) (led : Led) (z TI TO i1 i2 l1 l2 : Addr) (xs ys : Array Value) (sz : Nat) : Prop where
  apart : ZipApart z TI TO i1 i2 l1 l2
  isz : IsZip h z TI TO .none
  ti : IsPair h TI (.ref i1) (.ref i2)
  to : ∃ a b, IsPair h TO a b
  it1 : h.IsListIter i1 l1 0
  it2 : h.IsListIter i2 l2 0
  li1 : h.IsList l1 xs
  li2 : h.IsList l2 ys
  nz : sz ≤ z ∧ sz ≤ TI ∧ sz ≤ TO ∧ sz ≤ i1 ∧ sz ≤ i2
  base : ∀ b o, h₀.get? b = some o → @LT.lt Nat _ b sz
  loc : @LT.lt Nat _ L sz
  led : ∀ p ∈ led, @LT.lt Nat _ p.1 sz
section
variable {prog : Program} {w : World} {A : Around} {E : Value → Shared → Prop} {s : Shared} {h₀ : Heap} {L : Addr} {m : Str → Option Value} {led : Led}
theorem r_zip {l1 l2 : Addr} {xs ys : Array Value} {Q : Value → Shared → Prop} (F : Fr h₀ L s.heap m) (N : News h₀ L s.heap led) (hl1 : s.heap.IsList l1 xs) (hl2 : s.heap.IsList l2 ys)
    (h : ∀ z TI TO i1 i2 sz h', Fr h₀ L h' m → News h₀ L h' led → ZipSt h₀ L h' led z TI TO i1 i2 l1 l2 xs ys sz → Q (.ref z) { s with heap := h' }) : wpAny (model prog w) A (call (.type "zip") [.ref l1, .ref l2]) Q E s := by
  refine call_zip_2 hl1 hl2 fun h' a1 a2 a3 a4 a5 a6 a7 => ?_
  have b1 : l1 < s.heap.objs.size := by obtain ⟨_, e, _⟩ := hl1; exact Heap.lt_size e
  have b2 : l2 < s.heap.objs.size := by obtain ⟨_, e, _⟩ := hl2; exact Heap.lt_size e
  have nn : ∀ {a b : Nat}, a < b → a ≠ b := fun h => Nat.ne_of_lt h
  have F' : Fr h₀ L h' m := F.keeps a7
  have N' : News h₀ L h' led := N.grown a7
  refine h _ _ _ _ _ s.heap.objs.size h' F' N' ⟨⟨?_, ?_, ?_, ?_, ?_, ?_, ?_, ?_, ?_, ?_, ?_, ?_, ?_, ?_, ?_, ?_, ?_, ?_⟩, a1, a2, ⟨_, _, a3⟩, a4, a5, hl1.at fun o e => a7 _ o e, hl2.at fun o e => a7 _ o e, ⟨?_, ?_, ?_, Nat.le_refl _, ?_⟩, fun b o e => Heap.lt_size (F.keep b o e), F.ns.lt, fun p hp => Heap.lt_size (N p hp).1⟩
  all_goals first
    | exact Nat.le_add_right _ _
    | (show (_ : Nat) ≠ _; have b1' : @LT.lt Nat _ l1 s.heap.objs.size := b1; have b2' : @LT.lt Nat _ l2 s.heap.objs.size := b2; lia)
theorem r_dictZip {z TI TO i1 i2 l1 l2 : Addr} {pts : TS} {lts : List (Int × Tok)} {sz n : Nat} {Q : Value → Shared → Prop} (hh : A.handled = none) (F : Fr h₀ L s.heap m) (N : News h₀ L s.heap led) (hbig : sysModules < h₀.objs.size)
    (Z : ZipSt h₀ L s.heap led z TI TO i1 i2 l1 l2 (valsS pts).toArray (valsN lts).toArray sz) (hp : pts.length = n) (hl : lts.length = n) (hn : (pts.map (·.1)).Nodup) (h1 : 1 ≤ n) (hz : n ≤ 1000)
    (h : ∀ D o h' tk, Fr h₀ L h' m → News h₀ L h' ((D, o) :: led) → (∀ p ∈ led, p.1 < D) → (∀ g : Heap, g.get? D = some o → (D == sysModules) = false ∧ g.DictOf (PySem.strKind prog w) D (kvD pts lts n)) → Q (.ref D) { s with heap := h', toks := tk }) :
    wpAny (model prog w) A (call (.type "dict") [.ref z]) Q E s := by
  refine callType_codes (Q₁ := fun obj s₁ => obj = .ref s.heap.objs.size ∧ s₁ = { s with heap := s.heap.push { cls := .type "dict", data := .dict #[] } }) PySem.F.kt_called_dict (PySem.F.kt_typeCall_dict_1 _) PySem.F.entry_dict_init (kt_code_dict_new _ ⟨rfl, rfl⟩) ?_
  rintro obj s₁ ⟨rfl, rfl⟩
  have hnew : (s.heap.push { cls := .type "dict", data := .dict #[] }).DictOf (PySem.strKind prog w) s.heap.objs.size [] := Heap.DictOf.new s.heap
  refine ⟨hnew.typeIs, PySem.F.args_dict_init_2 _ _, ?_⟩
  have up : ∀ b o, s.heap.get? b = some o → (s.heap.push { cls := .type "dict", data := .dict #[] }).get? b = some o := fun b o e => Heap.get?_push_of_some _ e
  have hzT : ({ s with heap := s.heap.push { cls := .type "dict", data := .dict #[] } } : Shared).TypeIs (.ref z) "zip" := ⟨_, up _ _ Z.isz, rfl⟩
  unfold Builtin.«dict.__init__»
  refine wpAny_bind ?_
  unfold Builtin.Dict.selfAndRest
  refine wpAny_bind (wpAny_notOrdered_dict hnew.typeIs ?_)
  show wpAny _ _ (pure (s.heap.objs.size, [Value.ref z])) _ _ _
  refine wpAny_pure ?_
  show wpAny _ _ (Builtin.Dict.updateFrom "dict.__init__" s.heap.objs.size (.ref z) [] .none) _ _ _
  unfold Builtin.Dict.updateFrom
  refine wpAny_bind (wpAny_typeOf hzT ?_)
  rw [if_pos (by decide)]
  refine wpAny_bind (zip_no_keys (f0 := .none) (f1 := .bool false) (up _ _ Z.isz) (by exact hh) fun hk tk kk => ?_)
  simp only [Option.isNone_none, if_true]
  refine wpAny_bind (wpAny_rule ?_)
  have keep : ∀ b o, s.heap.get? b = some o → hk.get? b = some o := fun b o e => kk _ _ (up _ _ e)
  have hzk : IsZip hk z TI TO .none := keep _ _ Z.isz
  refine wpAny_bind (wpAny_pyIter_zip hzk ?_)
  obtain ⟨a, b, hto⟩ := Z.to
  have lt : ∀ {b : Addr} {o : Obj}, s.heap.get? b = some o → @Ne Nat b s.heap.objs.size := fun e => Nat.ne_of_lt (Heap.lt_size e)
  have li : ∀ {I l : Addr} {k : Nat}, s.heap.IsListIter I l k → @Ne Nat I s.heap.objs.size := fun ⟨_, e, _⟩ => lt e
  have ll : ∀ {l : Addr} {xs : Array Value}, s.heap.IsList l xs → @Ne Nat l s.heap.objs.size := fun ⟨_, e, _⟩ => lt e
  have DA : DApart s.heap.objs.size z TI TO i1 i2 l1 l2 := ⟨Ne.symm (lt Z.isz), Ne.symm (lt Z.ti), Ne.symm (li Z.it1), Ne.symm (li Z.it2), Ne.symm (ll Z.li1), Ne.symm (ll Z.li2)⟩
  have dTO : @Ne Nat s.heap.objs.size TO := Ne.symm (lt hto)
  have hd0 : hk.DictOf (PySem.strKind prog w) s.heap.objs.size [] := let ⟨o, es, ep, ho, r⟩ := hnew; ⟨o, es, ep, kk _ _ ho, r⟩
  have hi1 : 0 < pts.length := by lia
  have hi2 : 0 < lts.length := by lia
  have hx : (valsS pts).toArray[0]? = some (.str (pts[0]).1 (pts[0]).2) := by rw [List.getElem?_toArray, List.getElem?_map, List.getElem?_eq_getElem hi1]; rfl
  have hy : (valsN lts).toArray[0]? = some (.int (lts[0]).1 (lts[0]).2) := by rw [List.getElem?_toArray, List.getElem?_map, List.getElem?_eq_getElem hi2]; rfl
  have D := Z.apart
  refine wpAny_pure ⟨plainId_quiet plain_dul _, loop_turn (wpAny_pyNext_zip_item D hzk (keep _ _ Z.ti) (keep _ _ hto) (Z.it1.at fun o e => keep _ o e) (Z.it2.at fun o e => keep _ o e) (Z.li1.at fun o e => keep _ o e) (Z.li2.at fun o e => keep _ o e) hx hy fun h' a1 a2 a3 a4 a5 a6 a7 => ?_)⟩
  have hTsz : ∀ {b : Addr} {o : Obj}, s.heap.get? b = some o → @Ne Nat hk.objs.size b := fun e => Ne.symm (Nat.ne_of_lt (Heap.lt_size (keep _ _ e)))
  have hTd : @Ne Nat hk.objs.size s.heap.objs.size := by
    obtain ⟨o, es, ep, ho, _⟩ := hd0
    exact Ne.symm (Nat.ne_of_lt (Heap.lt_size ho))
  have hi : ∀ {I l : Addr} {k : Nat}, s.heap.IsListIter I l k → @Ne Nat hk.objs.size I := fun ⟨_, e, _⟩ => hTsz e
  have hd' : h'.DictOf (PySem.strKind prog w) s.heap.objs.size [] := let ⟨o, es, ep, ho, r⟩ := hd0; ⟨o, es, ep, a7 _ _ DA.z dTO DA.i1 DA.i2 ho, r⟩
  refine ⟨_, _, _, _, [], rfl, a5, hd', rfl, Nat.zero_le _, fun h2 tk2 hd2 hs2 => ?_⟩
  have e0 : ([] : List (Str × Value)) ++ [((pts[0]).1, Value.int (lts[0]).1 (lts[0]).2)] = kvD pts lts 1 := by
    rw [kvD_at (i := 0) (List.getElem?_eq_getElem hi1) (List.getElem?_eq_getElem hi2)]
    rfl
  rw [e0] at hd2
  have up2 : ∀ c o, c ≠ z → c ≠ TO → c ≠ i1 → c ≠ i2 → c ≠ s.heap.objs.size → hk.get? c = some o → h2.get? c = some o := fun c o c1 c2 c3 c4 c5 eo => hs2.extBut _ _ c5 (a7 _ _ c1 c2 c3 c4 eo)
  refine dict_turns (s₀ := s) (h₁ := hk) (n := n) (by exact hh) D DA hp hl hn hz (fun h3 tk3 hd3 k3 => ?_) (n - 1) 1 _ h2 tk2 (by lia)
    ⟨⟨hk.objs.size, .bool false, _, .inl rfl, hs2.extBut _ _ (Ne.symm DA.z) a1, hs2.extBut _ _ hTd a5, hTd, hTsz Z.isz, hi Z.it1, hi Z.it2⟩, up2 _ _ D.TIz D.TITO D.TIi1 D.TIi2 (Ne.symm DA.TI) (keep _ _ Z.ti), iter_at a3 hs2 (Ne.symm DA.i1), iter_at a4 hs2 (Ne.symm DA.i2),
      Z.li1.at fun o e => up2 _ o D.l1z D.l1TO D.l1i1 D.l1i2 (Ne.symm DA.l1) (keep _ _ e), Z.li2.at fun o e => up2 _ o D.l2z D.l2TO D.l2i1 D.l2i2 (Ne.symm DA.l2) (keep _ _ e), hd2, fun b o b1 b2 b3 b4 b5 eo => up2 _ _ b1 b2 b3 b4 b5 eo⟩
  obtain ⟨nz, nTI, nTO, ni1, ni2⟩ := Z.nz
  have low : ∀ b o, @LT.lt Nat _ b sz → s.heap.get? b = some o → h3.get? b = some o := fun b o hb e =>
    k3 b o (Nat.ne_of_lt (Nat.lt_of_lt_of_le hb nz)) (Nat.ne_of_lt (Nat.lt_of_lt_of_le hb nTO)) (Nat.ne_of_lt (Nat.lt_of_lt_of_le hb ni1)) (Nat.ne_of_lt (Nat.lt_of_lt_of_le hb ni2)) (lt e) (keep _ _ e)
  obtain ⟨o3, ho3, hd4⟩ := Heap.dictOf_iff.mp hd3
  have hD₀ : h₀.get? s.heap.objs.size = none := next_is_new F
  have nm : (s.heap.objs.size == sysModules) = false := F.notModules hbig
  refine ⟨rfl, h s.heap.objs.size o3 h3 tk3 ⟨F.ns.at' fun o e => low L o Z.loc e, fun b o e => low b o (Z.base b o e) (F.keep b o e), F.above⟩ (fun p hp => ?_) (fun p hp => Heap.lt_size (N p hp).1) (fun g e => ⟨nm, Heap.dictOf_iff.mpr ⟨o3, e, hd4⟩⟩)⟩
  rcases List.mem_cons.mp hp with rfl | hp
  · exact ⟨ho3, Ne.symm (Nat.ne_of_lt F.ns.lt), hD₀⟩
  · exact ⟨low _ _ (Z.led p hp) (N p hp).1, (N p hp).2⟩
end
end Mine
end
section
open PySem PySem.W PyProof.Rows PySem.Calls PySem.Spec PyProof.V
set_option maxRecDepth 100000
namespace Mine
noncomputable def ldF (ss : List Str) (ls : List Int) (x : Str) : Int := ((ss.zip ls).lookup x).getD 0
theorem lookup_pairs {x : Str} : ∀ (l : List ((Str × Tok) × (Int × Tok))), Spec.lookup (PyData.str x) (l.map fun q => (PyData.str q.1.1, PyData.int q.2.1)) = ((l.map fun q => (q.1.1, q.2.1)).lookup x).map PyData.int
  | [] => rfl
  | q :: r => by
    rw [List.map_cons, List.map_cons]
    unfold Spec.lookup
    rw [PyProof.V.same_str, List.lookup_cons, lookup_pairs r]
    by_cases h : q.1.1 = x
    · subst h
      simp
    · have h' : (x == q.1.1) = false := by simpa using fun e => h e.symm
      rw [h']
      simp [h]
theorem flat_kvD (l : List ((Str × Tok) × (Int × Tok))) : FlatPairs PyData.str (l.map fun q => (q.1.1, Value.int q.2.1 q.2.2)) (l.map fun q => (PyData.str q.1.1, PyData.int q.2.1)) := by
  induction l with
  | nil => exact .nil
  | cons q r ih => exact .cons (Flat.int _ _) ih
theorem lookup_mem {x : Str} : ∀ (ss : List Str) (ls : List Int), ss.length = ls.length → x ∈ ss → ∃ v ∈ ls, (ss.zip ls).lookup x = some v
  | [], _, _, h => nomatch h
  | s :: ss, [], h, _ => by cases h
  | s :: ss, l :: ls, h, hm => by
    rw [List.zip_cons_cons, List.lookup_cons]
    by_cases e : x = s
    · subst e
      exact ⟨l, .head _, by simp⟩
    · have h' : (x == s) = false := by simpa using e
      rw [h']
      obtain ⟨v, hv, r⟩ := lookup_mem ss ls (by simpa using h) ((List.mem_cons.mp hm).resolve_left e)
      exact ⟨v, .tail _ hv, r⟩
theorem ldF_mem {ss : List Str} {ls : List Int} {x : Str} (h : ss.length = ls.length) (hx : x ∈ ss) : ldF ss ls x ∈ ls := by
  obtain ⟨v, hv, e⟩ := lookup_mem ss ls h hx
  unfold ldF
  rw [e]
  exact hv
theorem dict_at {w : World} {g : Heap} {D : Addr} {pts : TS} {lts : List (Int × Tok)} {n : Nat} (h : (D == sysModules) = false ∧ g.DictOf (PySem.strKind (PySem.Challenge.rw_il0086_01.row.prog) w) D (kvD pts lts n)) (hp : pts.length = n) (hl : lts.length = n) :
    DictAt w g D (pts.map (·.1)) (ldF (pts.map (·.1)) (lts.map (·.1))) := by
  refine ⟨_, ⟨h.1, _, h.2, flat_kvD _⟩, fun x hx => ?_⟩
  have e : (pts.zip lts).take n = pts.zip lts := List.take_of_length_le (by rw [List.length_zip]; lia)
  rw [e, lookup_pairs]
  have e2 : (pts.zip lts).map (fun q => (q.1.1, q.2.1)) = (pts.map (·.1)).zip (lts.map (·.1)) := by rw [List.zip_map]; rfl
  rw [e2]
  obtain ⟨v, hv, r⟩ := lookup_mem (pts.map (·.1)) (lts.map (·.1)) (by rw [List.length_map, List.length_map]; lia) hx
  rw [r]
  unfold ldF
  rw [r]
  rfl
theorem loads_bound {ns : List Int} {v : Int} (h : v ∈ loadsF ns) : 1 ≤ v ∧ v ≤ 5 := by
  rcases List.mem_cons.mp h with rfl | h
  · exact ⟨by decide, by decide⟩
  · obtain ⟨x, _, rfl⟩ := List.mem_map.mp h
    have h1 := Int.fmod_nonneg_of_pos x (b := 5) (by decide)
    have h2 := Int.fmod_lt_of_pos x (b := 5) (by decide)
    try dsimp only
    lia
/-- only what bears a pair -/
theorem hin_min : ∀ {its : List HIt} {tl : Led}, HIn tl its → ∃ tl' : Led, (∀ p ∈ tl', p ∈ tl) ∧ HIn tl' its ∧ ∀ p ∈ tl', ∃ vs : List Value, p.2 = tup2 vs
  | [], tl, _ => ⟨[], (fun _ h => nomatch h), (fun _ h => nomatch h), (fun _ h => nomatch h)⟩
  | q :: r, tl, h => by
    obtain ⟨tl', h1, h2, h3⟩ := hin_min (its := r) (fun x hx => h x (.tail _ hx))
    obtain ⟨t, u, e⟩ := h q (.head _)
    refine ⟨(q.1, tup2 [.str q.2.1 t, .str q.2.2 u]) :: tl', List.forall_mem_cons.mpr ⟨e, h1⟩, fun x hx => ?_, List.forall_mem_cons.mpr ⟨⟨_, rfl⟩, h3⟩⟩
    rcases List.mem_cons.mp hx with rfl | hx
    · exact ⟨t, u, .head _⟩
    · obtain ⟨t', u', e'⟩ := h2 x hx
      exact ⟨t', u', .tail _ e'⟩
/-- what is no cell stands apart from the cells -/
theorem cell_apart {h₀ h : Heap} {L c a : Addr} {led : Led} {oc o : Obj} {ov : Option Value} (N : News h₀ L h led) (hc : (c, oc) ∈ led) (hd : oc.data = .cell ov) (hm : (a, o) ∈ led) (ho : ∀ v, o.data ≠ .cell v) : @Ne Nat a c := fun e => by
  have e1 := (N _ hm).1
  have e2 := (N _ hc).1
  dsimp only at e1 e2
  have e' : a = c := e
  rw [e', e2] at e1
  exact ho ov (Option.some.inj e1 ▸ hd)
theorem cell_tl {h₀ h : Heap} {L c : Addr} {led tl : Led} {oc : Obj} {ov : Option Value} (N : News h₀ L h led) (hc : (c, oc) ∈ led) (hd : oc.data = .cell ov) (hs : ∀ p ∈ tl, p ∈ led) (ht : ∀ p ∈ tl, ∃ vs : List Value, p.2 = tup2 vs) : Off c tl := fun p hp => by
  obtain ⟨vs, e⟩ := ht p hp
  exact cell_apart (o := p.2) N hc hd (hs p hp) (fun v hv => by rw [e] at hv; cases hv)
theorem seq_no_cell {vs : Array Value} {n : Nat} : ∀ v, (listOf vs n).data ≠ .cell v := fun v h => by cases h
theorem inst_no_cell {C d : Addr} : ∀ v, (instObj C d).data ≠ .cell v := fun v h => by cases h
theorem hdD_no_cell {w : World} {l : Addr} {t : Tok} : ∀ v, (hdD w l t).data ≠ .cell v := fun v h => by cases h
theorem HeadSpec.k {K : Params → Frag} {p : Program} {w : World} (S : HeadSpec K p w) : HeadSpecK K p w := S
theorem sub_cut {a b c d DD l x1 x2 yp yo x3 x4 x5 x6 c5 c4 c3 c2 c1 : Addr × Obj} {tl tl0 : Led} (hs : ∀ p ∈ tl, p ∈ tl0) : ∀ p ∈ a :: b :: c :: d :: l :: yp :: yo :: c5 :: c4 :: c3 :: c2 :: c1 :: tl, p ∈ a :: b :: c :: d :: (tl0 ++ [DD, l, x1, x2, yp, yo, x3, x4, x5, x6, c5, c4, c3, c2, c1]) :=
  have h : ∀ p ∈ l :: yp :: yo :: c5 :: c4 :: c3 :: c2 :: c1 :: tl, p ∈ tl0 ++ [DD, l, x1, x2, yp, yo, x3, x4, x5, x6, c5, c4, c3, c2, c1] := List.forall_mem_cons.mpr ⟨List.mem_append_right _ (.tail _ (.head _)), List.forall_mem_cons.mpr ⟨List.mem_append_right _ (.tail _ (.tail _ (.tail _ (.tail _ (.head _))))), List.forall_mem_cons.mpr ⟨List.mem_append_right _ (.tail _ (.tail _ (.tail _ (.tail _ (.tail _ (.head _)))))), List.forall_mem_cons.mpr ⟨List.mem_append_right _ (.tail _ (.tail _ (.tail _ (.tail _ (.tail _ (.tail _ (.tail _ (.tail _ (.tail _ (.tail _ (.head _))))))))))), List.forall_mem_cons.mpr ⟨List.mem_append_right _ (.tail _ (.tail _ (.tail _ (.tail _ (.tail _ (.tail _ (.tail _ (.tail _ (.tail _ (.tail _ (.tail _ (.head _)))))))))))), List.forall_mem_cons.mpr ⟨List.mem_append_right _ (.tail _ (.tail _ (.tail _ (.tail _ (.tail _ (.tail _ (.tail _ (.tail _ (.tail _ (.tail _ (.tail _ (.tail _ (.head _))))))))))))), List.forall_mem_cons.mpr ⟨List.mem_append_right _ (.tail _ (.tail _ (.tail _ (.tail _ (.tail _ (.tail _ (.tail _ (.tail _ (.tail _ (.tail _ (.tail _ (.tail _ (.tail _ (.head _)))))))))))))), List.forall_mem_cons.mpr ⟨List.mem_append_right _ (.tail _ (.tail _ (.tail _ (.tail _ (.tail _ (.tail _ (.tail _ (.tail _ (.tail _ (.tail _ (.tail _ (.tail _ (.tail _ (.tail _ (.head _))))))))))))))), fun p hp => List.mem_append_left _ (hs p hp)⟩⟩⟩⟩⟩⟩⟩⟩
  List.forall_mem_cons.mpr ⟨(.head _), List.forall_mem_cons.mpr ⟨(.tail _ (.head _)), List.forall_mem_cons.mpr ⟨(.tail _ (.tail _ (.head _))), List.forall_mem_cons.mpr ⟨(.tail _ (.tail _ (.tail _ (.head _)))), fun p hp => .tail _ (.tail _ (.tail _ (.tail _ (h p hp))))⟩⟩⟩⟩
end Mine
end
section
open PySem PySem.W PyProof.Rows PySem.Calls PySem.Spec PyProof.V PyProof.Rows.LCg
set_option maxRecDepth 100000
namespace Mine
section
variable {prog : Program} {w : World} {A : Around} {E : Value → Shared → Prop} {s : Shared} {h₀ : Heap} {L : Addr} {m : Str → Option Value} {env : Env} {led : Led}
/-- a turn that lays nothing -/
structure ZEnd (s₁ : Shared) (h : Heap) (J : Prop) (s' : Shared) : Prop where
  same : ∃ tk, s' = { s₁ with heap := h, toks := tk }
  j : J
/-- the zip at work within a comprehension -/
structure ZWork (h : Heap) (z TI TO i1 i2 l1 l2 : Addr) (xs ys : Array Value) (i : Nat) : Prop where
  isz : IsZip h z TI TO .none
  ti : IsPair h TI (.ref i1) (.ref i2)
  to : ∃ a b, IsPair h TO a b
  it1 : h.IsListIter i1 l1 i
  it2 : h.IsListIter i2 l2 i
  li1 : h.IsList l1 xs
  li2 : h.IsList l2 ys
theorem ZWork.keeps {h h' : Heap} {z TI TO i1 i2 l1 l2 : Addr} {xs ys : Array Value} {i : Nat} (W : ZWork h z TI TO i1 i2 l1 l2 xs ys i) (k : ∀ b o, h.get? b = some o → h'.get? b = some o) : ZWork h' z TI TO i1 i2 l1 l2 xs ys i :=
  ⟨k _ _ W.isz, k _ _ W.ti, let ⟨a, b, e⟩ := W.to; ⟨a, b, k _ _ e⟩, W.it1.at fun o e => k _ o e, W.it2.at fun o e => k _ o e, W.li1.at fun o e => k _ o e, W.li2.at fun o e => k _ o e⟩
theorem ZWork.but {h h' : Heap} {z TI TO i1 i2 l1 l2 c : Addr} {xs ys : Array Value} {i : Nat} (W : ZWork h z TI TO i1 i2 l1 l2 xs ys i) (hc : c ∉ [z, TI, TO, i1, i2, l1, l2]) (k : ∀ b o, b ≠ c → h.get? b = some o → h'.get? b = some o) : ZWork h' z TI TO i1 i2 l1 l2 xs ys i := by
  simp only [List.mem_cons, List.not_mem_nil, or_false, not_or] at hc
  obtain ⟨c1, c2, c3, c4, c5, c6, c7⟩ := hc
  obtain ⟨a, b, e⟩ := W.to
  exact ⟨k _ _ (Ne.symm c1) W.isz, k _ _ (Ne.symm c2) W.ti, ⟨a, b, k _ _ (Ne.symm c3) e⟩, W.it1.at fun o e => k _ o (Ne.symm c4) e, W.it2.at fun o e => k _ o (Ne.symm c5) e, W.li1.at fun o e => k _ o (Ne.symm c6) e, W.li2.at fun o e => k _ o (Ne.symm c7) e⟩
noncomputable def ZComp (prog : Program) (w : World) (A : Around) (h₀ : Heap) (L : Addr) (m : Str → Option Value) (env : Env) (ct elt : Expr) (x x₂ : Str) (scope : Scope) (cl : List (Str × Addr)) (Q : Value → Shared → Prop) (xv : Value) (s₁ : Shared) : Prop :=
  Ex13 fun (z : Addr) (TI : Addr) (TO : Addr) (i1 : Addr) (i2 : Addr) (l1 : Addr) (l2 : Addr) (sz : Nat) (n : Nat) (xs : Array Value) (ys : Array Value) (led : Led) (J : Nat → List Value → Prop) => And11 (xv = .ref z) (A.handled = none) (Fr h₀ L s₁.heap m) (News h₀ L s₁.heap led) (ZipSt h₀ L s₁.heap led z TI TO i1 i2 l1 l2 xs ys sz) (xs.size = n) (ys.size = n) (n ≤ sizeLine) (J 0 []) ((∀ i vs v₁ v₂ C oC m₂ h tk (E' : Value → Shared → Prop), i < n → J i vs → xs[i]? = some v₁ → ys[i]? = some v₂ → NsObj oC m₂ → m₂ x = some v₁ → m₂ x₂ = some v₂ → Fr h₀ L h m → News h₀ L h ((C, oC) :: led) → (∀ p ∈ led, @Ne Nat p.1 C) →
      wpAny (model prog w) A (isTrue ct (compEnvC scope cl C env) (eval ct (compEnvC scope cl C env))) (fun ok s' => if ok = true then
        wpAny (model prog w) A (eval elt (compEnvC scope cl C env)) (fun y s'' => Stopped (ZEnd s₁ h (J (i + 1) (vs ++ [y])) s'')) E' s'
        else Stopped (ZEnd s₁ h (J (i + 1) vs) s')) E' { s₁ with heap := h, toks := tk })) ((∀ vs D h tk, J n vs → Fr h₀ L h m → News h₀ L h ((D, lst vs) :: led) → (∀ p ∈ led, @LT.lt Nat _ p.1 D) → Q (.ref D) { s₁ with heap := h, toks := tk }))
theorem ListComp_Z {elt ct iter : Expr} {x x₂ : Str} {px px₂ tp : Pos} {kk : Nat} {scope : Scope} {cl : List (Str × Addr)} {pos : Pos} {Q : Value → Shared → Prop} (_F₀ : Fr h₀ L s.heap m)
    (hclos : closureFor scope env = pure cl) (hcell : ∀ y ∈ scope.names, y.2 ≠ .cell) (hkind : scope.kind = .function)
    (hnames : ∀ y ∈ scope.names, y.2 = .local → scope.names.lookup y.1 = some .local) (hx : scope.names.lookup x = some .local) (hx2 : scope.names.lookup x₂ = some .local) (hab : ¬ x = x₂)
    (h : wpAny (model prog w) A (eval iter env) (fun xv s₁ => ZComp prog w A h₀ L m env ct elt x x₂ scope cl Q xv s₁) E s)
    (hs : ∀ x, foldedSetIterable iter env x = pure x := by intro _; rfl) :
    wpAny (model prog w) A (eval (.ListComp elt [⟨.Tuple [.Name x px, .Name x₂ px₂] kk tp, iter, [ct], 0⟩] scope pos) env) Q E s := by
  rw [eval_ListComp]
  refine wpAny_comprehension_free (use := none) rfl hs hclos hkind hnames (wpAny_mono h (fun xv s₁ h₁ => ?_) fun _ _ e => e)
  obtain ⟨z, TI, TO, i1, i2, l1, l2, sz, n, xs, ys, led, J, rfl, hh, F, N, Z, hn1, hn2, hnz, h0, turn, fin⟩ := h₁
  refine wpAny_pyIter_zip Z.isz ?_
  refine wpAny_newObj_type (wpAny_newFunctionEnv hcell (by intro y hy; simp at hy) (fun h₁ hns₁ hsb₁ => ?_) hkind)
  dsimp only at hns₁ hsb₁ ⊢
  generalize hH2 : s₁.heap.push { cls := .type "list", dict := none, data := .seq ([] : List Value).toArray } = H2 at hns₁ hsb₁ ⊢
  have hC : H2.objs.size = s₁.heap.objs.size + 1 := by rw [← hH2, Heap.size_push]
  have hDC : s₁.heap.objs.size ≠ H2.objs.size := by rw [hC]; exact Nat.ne_of_lt (Nat.lt_succ_self _)
  have below : ∀ b, b < s₁.heap.objs.size → b ≠ H2.objs.size ∧ b ≠ s₁.heap.objs.size := fun b hb => ⟨by rw [hC]; exact Nat.ne_of_lt (Nat.lt_succ_of_lt hb), Nat.ne_of_lt hb⟩
  have old : ∀ b o, s₁.heap.get? b = some o → h₁.get? b = some o := fun b o e => hsb₁.extBut b o (below b (Heap.lt_size e)).1 (Heap.get?_push_of_some _ (hH2 ▸ Heap.get?_push_of_some _ e))
  have hacc : h₁.get? s₁.heap.objs.size = some (lst []) := hsb₁.extBut _ _ hDC (Heap.get?_push_of_some _ (hH2 ▸ Heap.get?_push_size _ rfl))
  have W0 : ZWork s₁.heap z TI TO i1 i2 l1 l2 xs ys 0 := ⟨Z.isz, Z.ti, Z.to, Z.it1, Z.it2, Z.li1, Z.li2⟩
  have lo : ∀ c ∈ [z, TI, TO, i1, i2, l1, l2], c < s₁.heap.objs.size := by
    obtain ⟨a, b, e⟩ := Z.to
    obtain ⟨_, e1, _⟩ := Z.it1
    obtain ⟨_, e2, _⟩ := Z.it2
    obtain ⟨_, e3, _⟩ := Z.li1
    obtain ⟨_, e4, _⟩ := Z.li2
    refine List.forall_mem_cons.mpr ⟨Heap.lt_size Z.isz, List.forall_mem_cons.mpr ⟨Heap.lt_size Z.ti, List.forall_mem_cons.mpr ⟨Heap.lt_size e, List.forall_mem_cons.mpr ⟨Heap.lt_size e1, List.forall_mem_cons.mpr ⟨Heap.lt_size e2, List.forall_mem_cons.mpr ⟨Heap.lt_size e3, List.forall_mem_cons.mpr ⟨Heap.lt_size e4, List.forall_mem_nil _⟩⟩⟩⟩⟩⟩⟩
  have offC : H2.objs.size ∉ [z, TI, TO, i1, i2, l1, l2] := fun hm => (below _ (lo _ hm)).1 rfl
  have offD : s₁.heap.objs.size ∉ [z, TI, TO, i1, i2, l1, l2] := fun hm => Nat.lt_irrefl _ (lo _ hm)
  have fresh₀ : ∀ a, s₁.heap.objs.size ≤ a → h₀.get? a = none := fun a ha => by
    cases e : h₀.get? a with
    | none => rfl
    | some o' => exact absurd (Heap.lt_size (F.keep a o' e)) (Nat.not_lt.mpr ha)
  have hD₀ : h₀.get? s₁.heap.objs.size = none := fresh₀ _ (Nat.le_refl _)
  have hC₀ : h₀.get? H2.objs.size = none := fresh₀ _ (by rw [hC]; exact Nat.le_succ _)
  have hLlt : L < s₁.heap.objs.size := F.ns.lt
  have hDL : s₁.heap.objs.size ≠ L := Ne.symm (below L hLlt).2
  have hCL : H2.objs.size ≠ L := Ne.symm (below L hLlt).1
  have D := Z.apart
  obtain ⟨nz, nTI, nTO, ni1, ni2⟩ := Z.nz
  have zC : z ≠ H2.objs.size := (below z (lo z (.head _))).1
  have ledlt : ∀ p ∈ led, p.1 < s₁.heap.objs.size := fun p hp => Heap.lt_size (N p hp).1
  -- what lies below the line of the zip stays
  have stay : ∀ {h h' : Heap}, (∀ c o, c ≠ z → c ≠ TO → c ≠ i1 → c ≠ i2 → h.get? c = some o → h'.get? c = some o) → ∀ c o, @LT.lt Nat _ c sz → h.get? c = some o → h'.get? c = some o := fun k c o hc e =>
    k c o (Nat.ne_of_lt (Nat.lt_of_lt_of_le hc nz)) (Nat.ne_of_lt (Nat.lt_of_lt_of_le hc nTO)) (Nat.ne_of_lt (Nat.lt_of_lt_of_le hc ni1)) (Nat.ne_of_lt (Nat.lt_of_lt_of_le hc ni2)) e
  have hCsz : @LT.lt Nat _ H2.objs.size sz → False := fun h => by
    have h1 : @LT.lt Nat _ z s₁.heap.objs.size := lo z (.head _)
    have h2 : @LE.le Nat _ sz z := nz
    have h3 : (H2.objs.size : Nat) = s₁.heap.objs.size + 1 := hC
    have h4 : @LT.lt Nat _ H2.objs.size sz := h
    lia
  have hDsz : @LT.lt Nat _ s₁.heap.objs.size sz → False := fun h => by
    have h1 : @LT.lt Nat _ z s₁.heap.objs.size := lo z (.head _)
    have h2 : @LE.le Nat _ sz z := nz
    lia
  have loop : ∀ s₃ : Shared, s₃ = { s₁ with heap := h₁, toks := s₁.toks + ([] : List (Str × Value)).length } →
      codeAny (model prog w) A (.compLoop (.ListComp elt [⟨.Tuple [.Name x px, .Name x₂ px₂] kk tp, iter, [ct], 0⟩] scope pos) 0 (.ref z) (.ref s₁.heap.objs.size) (compEnvC scope cl H2.objs.size env))
        (compPost (model prog w) A E none Q (.ref s₁.heap.objs.size) H2.objs.size) s₃ := by
    rintro s₃ rfl
    refine kct_loop
      (fun k s' => Ex5 fun h' tk i vs m' => And9 (s' = { s₁ with heap := h', toks := tk }) (i ≤ n) (k = n + 1 - i) (vs.length ≤ i) (ZWork h' z TI TO i1 i2 l1 l2 xs ys i) (Fr h₀ L h' m) (h'.Ns H2.objs.size m') (News h₀ L h' ((s₁.heap.objs.size, lst vs) :: led)) (J i vs)) ?_ (n + 1)
      ⟨h₁, _, 0, [], _, rfl, Nat.zero_le _, rfl, Nat.le_refl _, W0.keeps old, F.keeps old, hns₁, fun p hp => ?_, h0⟩
    · rintro k s' ⟨h', tk, i, vs, m', rfl, hi, rfl, hvl, W', F', hn', N', j'⟩
      obtain ⟨ta, tb, hto⟩ := W'.to
      by_cases hlt : i < n
      · have hx1 : xs[i]? = some xs[i] := Array.getElem?_eq_getElem (by lia)
        have hy1 : ys[i]? = some ys[i] := Array.getElem?_eq_getElem (by lia)
        refine wpAny_pyNext_zip_item D W'.isz W'.ti hto W'.it1 W'.it2 W'.li1 W'.li2 hx1 hy1 fun h₂ a1 a2 a3 a4 a5 a6 a7 => ?_
        have hTz : @Ne Nat h'.objs.size z := Ne.symm (Nat.ne_of_lt (Heap.lt_size W'.isz))
        refine wpAny_letOwnedTupleGo_zip a1 fun h₃ b1 b2 => ?_
        have hT₃ : h₃.IsTuple h'.objs.size #[xs[i], ys[i]] := ⟨_, b2.extBut _ _ hTz a5, rfl, _, rfl⟩
        have up₃ : ∀ c o, c ≠ z → c ≠ TO → c ≠ i1 → c ≠ i2 → h'.get? c = some o → h₃.get? c = some o := fun c o c1 c2 c3 c4 e => b2.extBut _ _ c1 (a7 c o c1 c2 c3 c4 e)
        have W₃ : ZWork h₃ z TI TO i1 i2 l1 l2 xs ys (i + 1) := ⟨b1, b2.extBut _ _ D.TIz (a7 _ _ D.TIz D.TITO D.TIi1 D.TIi2 W'.ti), ⟨_, _, b2.extBut _ _ D.TOz a2⟩, a3.at fun o e => b2.extBut _ o D.i1z e, a4.at fun o e => b2.extBut _ o D.i2z e,
          W'.li1.at fun o e => up₃ _ o D.l1z D.l1TO D.l1i1 D.l1i2 e, W'.li2.at fun o e => up₃ _ o D.l2z D.l2TO D.l2i1 D.l2i2 e⟩
        have cne : ∀ c ∈ [z, TI, TO, i1, i2, l1, l2], H2.objs.size ≠ c := fun c hc e => offC (e ▸ hc)
        refine kcp_assign (env := compEnvC scope cl H2.objs.size env) hh hT₃ (lookup_relabel_local hx) (lookup_relabel_local hx2) (by simp [compEnvC, relabel, hkind]) (hn'.at' fun o e => up₃ _ o (cne z (.head _)) (cne TO (.tail _ (.tail _ (.head _)))) (cne i1 (.tail _ (.tail _ (.tail _ (.head _))))) (cne i2 (.tail _ (.tail _ (.tail _ (.tail _ (.head _)))))) e) fun h₄ tk₄ hn₄ hs₄ => ?_
        have hs₄ : ∀ c o, c ≠ H2.objs.size → h₃.get? c = some o → h₄.get? c = some o := hs₄
        have W₄ : ZWork h₄ z TI TO i1 i2 l1 l2 xs ys (i + 1) := W₃.but offC hs₄
        have low : ∀ c o, @LT.lt Nat _ c sz → h'.get? c = some o → h₄.get? c = some o := fun c o hc e => hs₄ c o (fun q => hCsz (q ▸ hc)) (stay up₃ c o hc e)
        have F₄ : Fr h₀ L h₄ m := ⟨F'.ns.at' fun o e => low L o Z.loc e, fun b o e => low b o (Z.base b o e) (F'.keep b o e), F'.above⟩
        have N₄ : News h₀ L h₄ led := fun p hp => ⟨low _ _ (Z.led p hp) (N' p (.tail _ hp)).1, (N' p (.tail _ hp)).2⟩
        have dne : ∀ c ∈ [z, TI, TO, i1, i2, l1, l2], s₁.heap.objs.size ≠ c := fun c hc e => offD (e ▸ hc)
        have zD : h₄.get? s₁.heap.objs.size = some (lst vs) := hs₄ _ _ hDC (up₃ _ _ (dne z (.head _)) (dne TO (.tail _ (.tail _ (.head _)))) (dne i1 (.tail _ (.tail _ (.tail _ (.head _))))) (dne i2 (.tail _ (.tail _ (.tail _ (.tail _ (.head _)))))) (N' _ (.head _)).1)
        obtain ⟨oC, heC, hoC⟩ := ns_obj hn₄
        have heC : h₄.get? H2.objs.size = some oC := heC
        have N₅ : News h₀ L h₄ ((H2.objs.size, oC) :: led) := fun p hp => by
          rcases List.mem_cons.mp hp with rfl | hp
          · exact ⟨heC, hCL, hC₀⟩
          · exact N₄ p hp
        refine wpAny_mono (turn i vs xs[i] ys[i] H2.objs.size oC _ h₄ _ _ hlt j' hx1 hy1 hoC (by simp [hab]) (by simp) F₄ N₅ (fun p hp => (below _ (ledlt p hp)).1)) (fun ok s₅ h₅ => ?_) fun _ _ e => e
        cases ok with
        | false =>
          simp only [Bool.false_eq_true, if_false] at h₅ ⊢
          obtain ⟨⟨tk₅, rfl⟩, j₅⟩ := h₅.out
          exact ⟨n + 1 - (i + 1), by lia, h₄, tk₅, i + 1, vs, _, rfl, hlt, rfl, Nat.le_succ_of_le hvl, W₄, F₄, hn₄, fun p hp => by
            rcases List.mem_cons.mp hp with rfl | hp
            · exact ⟨zD, hDL, hD₀⟩
            · exact N₄ p hp, j₅⟩
        | true =>
          simp only [if_true] at h₅ ⊢
          refine wpAny_mono h₅ (fun y s₆ h₆ => ?_) fun _ _ e => e
          obtain ⟨⟨tk₆, rfl⟩, j₆⟩ := h₆.out
          refine append_at (hsz := by show vs.toArray.size ≤ sizeLine; rw [List.size_toArray]; lia) zD fun h₆ hs₆ hD₆ => ?_
          have up6 : ∀ b o, b ≠ s₁.heap.objs.size → h₄.get? b = some o → h₆.get? b = some o := fun b o hb e => hs₆.extBut b o hb e
          refine ⟨n + 1 - (i + 1), by lia, h₆, tk₆, i + 1, vs ++ [y], _, rfl, hlt, rfl, by rw [List.length_append, List.length_singleton]; lia, W₄.but offD up6, F₄.change hs₆ hDL hD₀, hn₄.sameBut hs₆ (Ne.symm hDC), fun p hp => ?_, j₆⟩
          rcases List.mem_cons.mp hp with rfl | hp
          · exact ⟨hD₆.trans (congrArg some (lst_snoc vs y)), hDL, hD₀⟩
          · exact ⟨up6 _ _ (below _ (ledlt p hp)).2 (N₄ p hp).1, (N₄ p hp).2⟩
      · obtain rfl : i = n := Nat.le_antisymm hi (Nat.not_lt.mp hlt)
        refine wpAny_pyNext_zip_end hh D W'.isz W'.ti hto W'.it1 W'.it2 W'.li1 W'.li2 (.inl (Array.getElem?_eq_none (by lia))) fun h₂ k₂ => ?_
        have cne : ∀ c ∈ [z, TI, TO, i1, i2, l1, l2], H2.objs.size ≠ c := fun c hc e => offC (e ▸ hc)
        have dne : ∀ c ∈ [z, TI, TO, i1, i2, l1, l2], s₁.heap.objs.size ≠ c := fun c hc e => offD (e ▸ hc)
        have low := stay k₂
        have F₂ : Fr h₀ L h₂ m := ⟨F'.ns.at' fun o e => low L o Z.loc e, fun b o e => low b o (Z.base b o e) (F'.keep b o e), F'.above⟩
        refine ⟨m', hn'.at' fun o e => k₂ _ o (cne z (.head _)) (cne TO (.tail _ (.tail _ (.head _)))) (cne i1 (.tail _ (.tail _ (.tail _ (.head _))))) (cne i2 (.tail _ (.tail _ (.tail _ (.tail _ (.head _)))))) e, fun h'' hs'' => fin vs s₁.heap.objs.size h'' tk j' (F₂.change hs'' hCL hC₀) (fun p hp => ?_) ledlt⟩
        rcases List.mem_cons.mp hp with rfl | hp
        · exact ⟨hs''.extBut _ _ hDC (k₂ _ _ (dne z (.head _)) (dne TO (.tail _ (.tail _ (.head _)))) (dne i1 (.tail _ (.tail _ (.tail _ (.head _))))) (dne i2 (.tail _ (.tail _ (.tail _ (.tail _ (.head _)))))) (N' _ (.head _)).1), hDL, hD₀⟩
        · exact ⟨hs''.extBut _ _ (below _ (ledlt p hp)).1 (low _ _ (Z.led p hp) (N' p (.tail _ hp)).1), (N' p (.tail _ hp)).2⟩
    · rcases List.mem_cons.mp hp with rfl | hp
      · exact ⟨hacc, hDL, hD₀⟩
      · exact ⟨old _ _ (N p hp).1, (N p hp).2⟩
  exact codeAny_compStart_list (loop _ rfl) (wpAny_pyIter_zip (old _ _ Z.isz) (loop _ rfl))
end
end Mine
end
section
open PySem PySem.W PyProof.Rows PySem.Calls PySem.Spec PyProof.V PyProof.Rows.LCg
set_option maxRecDepth 100000
namespace Mine
section
variable {prog : Program} {w : World} {A : Around} {E : Value → Shared → Prop} {s : Shared} {h₀ : Heap} {L : Addr} {m : Str → Option Value} {env : Env} {led : Led}
noncomputable abbrev cellNone : Obj := { cls := .type "cell", data := .cell none }
/-- a comprehension's frame with one cell of its own -/
theorem newEnv_cell {scope : Scope} {x : Str} {cl : List (Str × Addr)} {Q : Env → Shared → Prop} (hcf : ∀ n, cellsFrom n scope.names cl = (x, n) :: cl) (hpc : ∀ h, pushCells h scope.names = h.push cellNone)
    (h : Q (compEnvC scope ((x, s.heap.objs.size + 1) :: cl) s.heap.objs.size env |> fun e => { e with scope := scope }) { s with heap := (s.heap.push { cls := .type "dict", data := .dict #[] }).push cellNone }) :
    wpAny (model prog w) A (newFunctionEnv scope env.globals cl [] env.qual none .none (some env)) Q E s := by
  simp only [newFunctionEnv, Option.isSome_some, if_true]
  refine wpAny_bind (wpAny_alloc ?_)
  refine wpAny_bind (wpAny_layCells _ (fun name kind cells => by cases hkc : kind == NameKind.cell <;> simp [hkc]) _ _ _ _ ?_)
  rw [hcf, hpc]
  rw [show ({ s with heap := s.heap.push { cls := .type "dict", data := .dict #[] } } : Shared).heap.objs.size = s.heap.objs.size + 1 from Heap.size_push ..]
  refine wpAny_bind ?_
  rw [List.forIn_nil]
  exact wpAny_pure (wpAny_pure h)
structure KEnd (h₀ : Heap) (L : Addr) (m : Str → Option Value) (s₁ : Shared) (need : Led) (J : Prop) (s' : Shared) : Prop where
  same : ∃ h tk, s' = { s₁ with heap := h, toks := tk } ∧ Fr h₀ L h m ∧ News h₀ L h need
  j : J
noncomputable def KComp (prog : Program) (w : World) (A : Around) (h₀ : Heap) (L : Addr) (m : Str → Option Value) (env : Env) (ct elt : Expr) (x y : Str) (scope : Scope) (cl : List (Str × Addr)) (Q : Flow → Shared → Prop) (xv : Value) (s₁ : Shared) : Prop :=
  Ex5 fun (ax : Addr) (its : Array Value) (k : Nat) (led : Led) (J : Nat → List Value → Prop) => And9 (xv = .ref ax) (A.handled = none) (Fr h₀ L s₁.heap m) (News h₀ L s₁.heap led) ((ax, ({ cls := .type "list", data := .seq its k } : Obj)) ∈ led) (its.size ≤ sizeLine) (J 0 []) ((∀ i vs v I oI C oC D K oK h tk (E' : Value → Shared → Prop), i < its.size → J i vs → its[i]? = some v → oK.data = .cell (some v) → Fr h₀ L h m → News h₀ L h ((I, oI) :: (C, oC) :: (D, lst vs) :: (K, oK) :: led) → (∀ p ∈ led, (@LT.lt Nat _ p.1 I) ∧ (@LT.lt Nat _ p.1 C) ∧ (@LT.lt Nat _ p.1 D) ∧ (@LT.lt Nat _ p.1 K)) → ((@Ne Nat I C) ∧ (@Ne Nat I D) ∧ (@Ne Nat C D) ∧ (@Ne Nat I K) ∧ (@Ne Nat C K) ∧ (@Ne Nat D K)) →
      wpAny (model prog w) A (isTrue ct (compEnvC scope ((x, K) :: cl) C env) (eval ct (compEnvC scope ((x, K) :: cl) C env))) (fun ok s' => if ok = true then
        wpAny (model prog w) A (eval elt (compEnvC scope ((x, K) :: cl) C env)) (fun z s'' => Stopped (KEnd h₀ L m s₁ ((I, oI) :: (C, oC) :: (D, lst vs) :: (K, oK) :: led) (J (i + 1) (vs ++ [z])) s'')) E' s'
        else Stopped (KEnd h₀ L m s₁ ((I, oI) :: (C, oC) :: (D, lst vs) :: (K, oK) :: led) (J (i + 1) vs) s')) E' { s₁ with heap := h, toks := tk })) ((∀ vs D h tk, J its.size vs → Fr h₀ L h (fun z => if z = y then some (.ref D) else m z) → News h₀ L h ((D, lst vs) :: led) → (∀ p ∈ led, @LT.lt Nat _ p.1 D) → Q .next { s₁ with heap := h, toks := tk }))
theorem Assign_ListComp_K {ct elt iter : Expr} {x y : Str} {px py : Pos} {scope : Scope} {cl : List (Str × Addr)} {pos spos : Pos} {Q : Flow → Shared → Prop} (_F₀ : Fr h₀ L s.heap m) (hLe : env.locals = L)
    (hsw : swapsWith (.ListComp elt [⟨.Name x px, iter, [ct], 0⟩] scope pos) (some (.Name y py)) spos.line env = pure true)
    (hclos : closureFor scope env = pure cl) (hcf : ∀ n, cellsFrom n scope.names cl = (x, n) :: cl) (hpc : ∀ h, pushCells h scope.names = h.push cellNone) (hkind : scope.kind = .function)
    (hnames : ∀ z ∈ scope.names, z.2 = .local → scope.names.lookup z.1 = some .local) (hx : (relabel scope env).names.lookup x = some .cell)
    (hy : env.kindOf y = some .local) (hp : (env.scope.kind == .class || (env.scope.kind == .module && env.locals != env.globals)) = false)
    (h : wpAny (model prog w) A (eval iter env) (fun xv s₁ => KComp prog w A h₀ L m env ct elt x y scope cl Q xv s₁) E s)
    (hs : ∀ x, foldedSetIterable iter env x = pure x := by intro _; rfl) :
    wpAny (model prog w) A (exec (.Assign [.Name y py] (.ListComp elt [⟨.Name x px, iter, [ct], 0⟩] scope pos) spos) env) Q E s := by
  subst hLe
  rw [exec_Assign_Name_used _ _ _ _ hsw]
  refine wpAny_bind (wpAny_standAt (wpAny_bind ?_))
  show wpAny _ A (do let _ ← comprehension (.ListComp elt [⟨.Name x px, iter, [ct], 0⟩] scope pos) scope env _ (newList []) false (eval iter env) (some (assign (.Name y py) env))) _ _ s
  refine wpAny_bind (wpAny_mono (wpAny_comprehension_free (use := some (assign (.Name y py) env)) (Q := fun _ s' => Q .next s') rfl hs hclos hkind hnames
    (wpAny_mono h (fun xv s₁ h₁ => ?_) fun _ _ e => e)) (fun _ s' hq => wpAny_pure (wpAny_pure hq)) fun _ _ e => e)
  obtain ⟨ax, its, kk, led, J, rfl, hh, F, N, hm, hsz, h0, turn, fin⟩ := h₁
  have hl : s₁.heap.IsList ax its := ⟨_, (N _ hm).1, rfl, _, rfl⟩
  have hlt : ax < s₁.heap.objs.size := by obtain ⟨_, e, _⟩ := hl; exact Heap.lt_size e
  refine wpAny_pyIter_list hl ?_
  refine wpAny_newObj_type (newEnv_cell hcf hpc ?_)
  dsimp only
  generalize hHI : s₁.heap.push { cls := .type "list_iterator", data := .fields #[.ref ax, .int 0 0] } = HI
  generalize hHD : HI.push { cls := .type "list", dict := none, data := .seq ([] : List Value).toArray } = HD
  generalize hHC : HD.push { cls := .type "dict", data := .dict #[] } = HC
  generalize hHK : HC.push cellNone = HK
  have sI : HI.objs.size = s₁.heap.objs.size + 1 := by rw [← hHI, Heap.size_push]
  have sD : HD.objs.size = s₁.heap.objs.size + 2 := by rw [← hHD, Heap.size_push, sI]
  have sC : HC.objs.size = s₁.heap.objs.size + 3 := by rw [← hHC, Heap.size_push, sD]
  have up : ∀ b o, s₁.heap.get? b = some o → HK.get? b = some o := fun b o e => hHK ▸ Heap.get?_push_of_some _ (hHC ▸ Heap.get?_push_of_some _ (hHD ▸ Heap.get?_push_of_some _ (hHI ▸ Heap.get?_push_of_some _ e)))
  have gI : HK.get? s₁.heap.objs.size = some { cls := .type "list_iterator", data := .fields #[.ref ax, .int 0 0] } := hHK ▸ Heap.get?_push_of_some _ (hHC ▸ Heap.get?_push_of_some _ (hHD ▸ Heap.get?_push_of_some _ (hHI ▸ Heap.get?_push_size _ rfl)))
  have gD : HK.get? HI.objs.size = some (lst []) := hHK ▸ Heap.get?_push_of_some _ (hHC ▸ Heap.get?_push_of_some _ (hHD ▸ Heap.get?_push_size _ rfl))
  have gC : HK.get? HD.objs.size = some { cls := .type "dict", data := .dict #[] } := hHK ▸ Heap.get?_push_of_some _ (hHC ▸ Heap.get?_push_size _ rfl)
  have gK : HK.get? (HD.objs.size + 1) = some cellNone := by
    have := Heap.get?_push_size HC (o := cellNone) rfl
    rw [hHK] at this
    rw [show HD.objs.size + 1 = HC.objs.size by rw [sC, sD]]
    exact this
  have nsC : HK.Ns HD.objs.size (fun _ => none) := (Heap.Ns.new HD (.type "dict")).keeps fun b o e => hHK ▸ Heap.get?_push_of_some _ (hHC ▸ e)
  have eI : (HI.objs.size : Nat) = s₁.heap.objs.size + 1 := sI
  have eD : (HD.objs.size : Nat) = s₁.heap.objs.size + 2 := sD
  obtain ⟨I, hI⟩ : ∃ I : Nat, I = s₁.heap.objs.size := ⟨_, rfl⟩
  obtain ⟨D, hD⟩ : ∃ D : Nat, D = HI.objs.size := ⟨_, rfl⟩
  obtain ⟨C, hC⟩ : ∃ C : Nat, C = HD.objs.size := ⟨_, rfl⟩
  obtain ⟨K, hK⟩ : ∃ K : Nat, K = HD.objs.size + 1 := ⟨_, rfl⟩
  rw [← hI] at gI
  rw [← hD] at gD
  rw [← hC] at gC nsC
  rw [← hK] at gK
  rw [← hI, ← hD, ← hK, ← hC]
  have oI : (I : Nat) = s₁.heap.objs.size := hI
  have oD : (D : Nat) = s₁.heap.objs.size + 1 := hD.trans eI
  have oC : (C : Nat) = s₁.heap.objs.size + 2 := hC.trans eD
  have oK : (K : Nat) = s₁.heap.objs.size + 3 := by rw [hK, eD]
  clear hI hD hC hK eI eD sI sD sC
  have lt1 : ∀ {b : Addr} {o : Obj}, s₁.heap.get? b = some o → @LT.lt Nat _ b s₁.heap.objs.size := fun e => Heap.lt_size e
  have fresh₀ : ∀ a : Nat, s₁.heap.objs.size ≤ a → h₀.get? a = none := fun a ha => by
    cases e : h₀.get? a with
    | none => rfl
    | some o' => exact absurd (Heap.lt_size (F.keep a o' e)) (Nat.not_lt.mpr ha)
  have fI := fresh₀ I (by lia)
  have fD := fresh₀ D (by lia)
  have fC := fresh₀ C (by lia)
  have fK := fresh₀ K (by lia)
  have hLlt : @LT.lt Nat _ env.locals s₁.heap.objs.size := F.ns.lt
  have nI : @Ne Nat I env.locals := by lia
  have nD : @Ne Nat D env.locals := by lia
  have nC : @Ne Nat C env.locals := by lia
  have nK : @Ne Nat K env.locals := by lia
  have hax : @LT.lt Nat _ ax s₁.heap.objs.size := hlt
  have ledlt : ∀ p ∈ led, @LT.lt Nat _ p.1 s₁.heap.objs.size := fun p hp => lt1 (N p hp).1
  have W := Walks.list (prog := prog) (w := w) hh I ax (show @Ne Nat ax I by lia) its
  have ls : ∀ {h : Heap} {i : Nat}, (h.IsListIter I ax i ∧ h.IsList ax its) → ∃ o, h.get? I = some o := fun st => by obtain ⟨o, e, _⟩ := st.1; exact ⟨o, e⟩
  have st0 : HK.IsListIter I ax 0 ∧ HK.IsList ax its := ⟨⟨_, gI, rfl, rfl⟩, hl.at fun o e => up _ o e⟩
  have loop : ∀ s₃ : Shared, s₃ = { s₁ with heap := HK } →
      codeAny (model prog w) A (.compLoop (.ListComp elt [⟨.Name x px, iter, [ct], 0⟩] scope pos) 0 (.ref I) (.ref D) (compEnvC scope ((x, K) :: cl) C env))
        (compPost (model prog w) A E (some (assign (.Name y py) env)) (fun _ s' => Q .next s') (.ref D) C) s₃ := by
    rintro s₃ rfl
    refine codeAny_compLoop_tests
      (fun k s' => Ex5 fun h' tk i vs m' => And10 (s' = { s₁ with heap := h', toks := tk }) (i ≤ its.size) (k = its.size + 1 - i) (vs.length ≤ i) ((h'.IsListIter I ax i ∧ h'.IsList ax its)) (Fr h₀ env.locals h' m) (h'.Ns C m') ((∃ v, h'.IsCell K v)) (News h₀ env.locals h' ((D, lst vs) :: led)) (J i vs)) ?_ (its.size + 1)
      ⟨HK, s₁.toks, 0, [], _, rfl, Nat.zero_le _, rfl, Nat.le_refl _, st0, F.keeps up, nsC, ⟨none, ⟨_, gK, rfl⟩⟩, fun p hp => ?_, h0⟩
    · rintro k s' ⟨h', tk, i, vs, m', rfl, hi, rfl, hvl, st', F', hn', ⟨cv, hcell'⟩, N', j'⟩
      by_cases hlt' : i < its.size
      · refine W.item i _ _ _ hlt' st' fun v h₂ tk₂ hPv hst₂ hk₂ => ?_
        have up₂ : ∀ b o, @Ne Nat b I → h'.get? b = some o → h₂.get? b = some o := fun b o hb e => hk₂ b o (by simpa using hb) e
        have cell₂ : h₂.IsCell K cv := let ⟨o, e, r⟩ := hcell'; ⟨o, up₂ _ _ (by lia) e, r⟩
        refine wpAny_assign_Name (wpAny_storeName_cell (env := compEnvC scope ((x, K) :: cl) C env) (by simp [compEnvC, relabel, hkind]) hx (by simp [compEnvC]) cell₂ fun h₃ hc₃ hs₃ => ?_)
        refine wpAny_tests_one ?_
        have up₃ : ∀ b o, @Ne Nat b I → @Ne Nat b K → h'.get? b = some o → h₃.get? b = some o := fun b o hb hb2 e => hs₃.extBut b o hb2 (up₂ b o hb e)
        have hst₃ : h₃.IsListIter I ax (i + 1) ∧ h₃.IsList ax its := W.frame _ _ _ hst₂ fun b hb o e => hs₃.extBut b o (by
          rcases List.mem_cons.mp hb with rfl | hb
          · show @Ne Nat _ _; lia
          · rw [List.mem_singleton.mp hb]; show @Ne Nat _ _; lia) e
        obtain ⟨obI, heI⟩ := ls hst₃
        have hn₃ : h₃.Ns C m' := hn'.at' fun o e => up₃ _ o (by lia) (by lia) e
        obtain ⟨obC, heC, hoC⟩ := ns_obj hn₃
        obtain ⟨obK, heK, hoK⟩ := id hc₃
        have F₃ : Fr h₀ env.locals h₃ m := ⟨F'.ns.at' fun o e => up₃ _ o (Ne.symm nI) (Ne.symm nK) e, fun b o e => up₃ b o (fun q => by rw [show b = I from q, fI] at e; cases e) (fun q => by rw [show b = K from q, fK] at e; cases e) (F'.keep b o e), F'.above⟩
        have N₂ : News h₀ env.locals h₃ ((D, lst vs) :: led) := fun p hp => by
          refine ⟨up₃ _ _ ?_ ?_ (N' p hp).1, (N' p hp).2⟩
          · rcases List.mem_cons.mp hp with rfl | hp
            · show @Ne Nat _ _; lia
            · have := ledlt p hp; lia
          · rcases List.mem_cons.mp hp with rfl | hp
            · show @Ne Nat _ _; lia
            · have := ledlt p hp; lia
        have N₃ : News h₀ env.locals h₃ ((I, obI) :: (C, obC) :: (D, lst vs) :: (K, obK) :: led) := fun p hp => by
          rcases List.mem_cons.mp hp with rfl | hp
          · exact ⟨heI, nI, fI⟩
          rcases List.mem_cons.mp hp with rfl | hp
          · exact ⟨heC, nC, fC⟩
          rcases List.mem_cons.mp hp with rfl | hp
          · exact N₂ _ (.head _)
          rcases List.mem_cons.mp hp with rfl | hp
          · exact ⟨heK, nK, fK⟩
          · exact N₂ p (.tail _ hp)
        have after : ∀ (vs' : List Value) (h₄ : Heap) (tk₄ : Nat), Fr h₀ env.locals h₄ m → News h₀ env.locals h₄ ((I, obI) :: (C, obC) :: (D, lst vs') :: (K, obK) :: led) → vs'.length ≤ i + 1 → J (i + 1) vs' →
            ∃ k', k' < its.size + 1 - i ∧ Ex5 fun h' tk i vs m' => And10 (({ s₁ with heap := h₄, toks := tk₄ } : Shared) = { s₁ with heap := h', toks := tk }) (i ≤ its.size) (k' = its.size + 1 - i) (vs.length ≤ i) ((h'.IsListIter I ax i ∧ h'.IsList ax its)) (Fr h₀ env.locals h' m) (h'.Ns C m') ((∃ v, h'.IsCell K v)) (News h₀ env.locals h' ((D, lst vs) :: led)) (J i vs) :=
          fun vs' h₄ tk₄ F₄ N₄ hl₄ j₄ => by
            have zI := (N₄ (I, obI) (.head _)).1
            have zC := (N₄ (C, obC) (.tail _ (.head _))).1
            have zK := (N₄ (K, obK) (.tail _ (.tail _ (.tail _ (.head _))))).1
            have zx := (N₄ _ (.tail _ (.tail _ (.tail _ (.tail _ hm))))).1
            obtain ⟨o', q, r⟩ := hst₃.1
            rw [heI] at q
            cases q
            exact ⟨its.size + 1 - (i + 1), by lia, h₄, tk₄, i + 1, vs', _, rfl, hlt', rfl, hl₄, ⟨⟨_, zI, r⟩, ⟨_, zx, rfl, _, rfl⟩⟩, F₄, hoC.ns zC, ⟨_, ⟨obK, zK, hoK⟩⟩, fun p hp => by
              rcases List.mem_cons.mp hp with rfl | hp
              · exact N₄ _ (.tail _ (.tail _ (.head _)))
              · exact N₄ p (.tail _ (.tail _ (.tail _ (.tail _ hp)))), j₄⟩
        refine wpAny_mono (turn i vs v I obI C obC D K obK h₃ _ _ hlt' j' hPv hoK F₃ N₃ (fun p hp => by have := ledlt p hp; exact ⟨by lia, by lia, by lia, by lia⟩) ⟨by lia, by lia, by lia, by lia, by lia, by lia⟩) (fun ok s₄ h₄ => ?_) fun _ _ e => e
        cases ok with
        | false =>
          simp only [Bool.false_eq_true, if_false] at h₄ ⊢
          obtain ⟨⟨h₅, tk₅, rfl, F₅, N₅⟩, j₅⟩ := h₄.out
          exact after vs h₅ tk₅ F₅ N₅ (Nat.le_succ_of_le hvl) j₅
        | true =>
          simp only [if_true] at h₄ ⊢
          refine wpAny_mono h₄ (fun yv s₅ h₅ => ?_) fun _ _ e => e
          obtain ⟨⟨h₆, tk₆, rfl, F₆, N₆⟩, j₆⟩ := h₅.out
          have zD := (N₆ (D, lst vs) (.tail _ (.tail _ (.head _)))).1
          refine append_at (hsz := by show vs.toArray.size ≤ sizeLine; rw [List.size_toArray]; lia) zD fun h₇ hs₇ hD₇ => ?_
          have keep : ∀ p ∈ (I, obI) :: (C, obC) :: (K, obK) :: led, @Ne Nat p.1 D := List.forall_mem_cons.mpr ⟨by show @Ne Nat _ _; lia, List.forall_mem_cons.mpr ⟨by show @Ne Nat _ _; lia, List.forall_mem_cons.mpr ⟨by show @Ne Nat _ _; lia, fun p hp => by have := ledlt p hp; lia⟩⟩⟩
          have k7 : ∀ p ∈ (I, obI) :: (C, obC) :: (K, obK) :: led, p ∈ (I, obI) :: (C, obC) :: (D, lst vs) :: (K, obK) :: led → h₇.get? p.1 = some p.2 ∧ p.1 ≠ env.locals ∧ h₀.get? p.1 = none := fun p hp hp2 => ⟨hs₇.extBut _ _ (keep p hp) (N₆ p hp2).1, (N₆ p hp2).2⟩
          refine after (vs ++ [yv]) h₇ _ (F₆.change hs₇ nD fD) (fun p hp => ?_) (by rw [List.length_append, List.length_singleton]; lia) j₆
          rcases List.mem_cons.mp hp with rfl | hp
          · exact k7 _ (.head _) (.head _)
          rcases List.mem_cons.mp hp with rfl | hp
          · exact k7 _ (.tail _ (.head _)) (.tail _ (.head _))
          rcases List.mem_cons.mp hp with rfl | hp
          · exact ⟨hD₇.trans (congrArg some (lst_snoc vs yv)), nD, fD⟩
          rcases List.mem_cons.mp hp with rfl | hp
          · exact k7 _ (.tail _ (.tail _ (.head _))) (.tail _ (.tail _ (.tail _ (.head _))))
          · exact k7 _ (.tail _ (.tail _ (.tail _ hp))) (.tail _ (.tail _ (.tail _ (.tail _ hp))))
      · obtain rfl : i = its.size := Nat.le_antisymm hi (Nat.not_lt.mp hlt')
        refine W.done _ _ _ st' fun h₂ tk₂ hk₂ => ?_
        have up₂ : ∀ b o, @Ne Nat b I → h'.get? b = some o → h₂.get? b = some o := fun b o hb e => hk₂ b o (by simpa using hb) e
        have F₂ : Fr h₀ env.locals h₂ m := ⟨F'.ns.at' fun o e => up₂ _ o (Ne.symm nI) e, fun b o e => up₂ b o (fun q => by rw [show b = I from q, fI] at e; cases e) (F'.keep b o e), F'.above⟩
        have hn₂ : h₂.Ns C m' := hn'.at' fun o e => up₂ _ o (by lia) e
        show wpAny _ A (assign (.Name y py) env (.ref D)) _ _ _
        refine wpAny_assign_Name (wpAny_storeName_local hy F₂.ns (fun h₄ hn₄ hs₄ => ?_) hp)
        have hL₀ : h₀.get? env.locals = none := Heap.get?_none_of_le F₂.above
        have F₄ : Fr h₀ env.locals h₄ (fun z => if z = y then some (.ref D) else m z) := ⟨hn₄, fun b o e => hs₄.extBut b o (fun q => by rw [q, hL₀] at e; cases e) (F₂.keep b o e), F₂.above⟩
        refine ⟨m', hn₂.sameBut hs₄ nC, fun h'' hs'' => fin vs D h'' _ j' (F₄.change hs'' nC fC) (fun p hp => ?_) (fun p hp => by have := ledlt p hp; lia)⟩
        have pI : @Ne Nat p.1 I ∧ @Ne Nat p.1 C := by
          rcases List.mem_cons.mp hp with rfl | hp
          · exact ⟨by show @Ne Nat _ _; lia, by show @Ne Nat _ _; lia⟩
          · have := ledlt p hp; exact ⟨by lia, by lia⟩
        exact ⟨hs''.extBut _ _ pI.2 (hs₄.extBut _ _ (N' p hp).2.1 (up₂ _ _ pI.1 (N' p hp).1)), (N' p hp).2⟩
    · rcases List.mem_cons.mp hp with rfl | hp
      · exact ⟨gD, nD, fD⟩
      · exact ⟨up _ _ (N p hp).1, (N p hp).2⟩
  exact codeAny_compStart_list (loop _ rfl) (W.self 0 _ _ _ st0 (loop _ rfl))
end
end Mine
end
section
open PySem PySem.W PyProof.Rows PySem.Calls PySem.Spec PyProof.V PyProof.Rows.LCg
set_option maxRecDepth 100000
namespace Mine
theorem strsAre_valsS (ts : TS) : StrsAre (valsS ts) (ts.map (·.1)) := by
  induction ts with
  | nil => exact .nil
  | cons q r ih => exact .cons _ _ ih
section
variable {prog : Program} {w : World} {A : Around} {E : Value → Shared → Prop} {s : Shared} {h₀ : Heap} {L : Addr} {m : Str → Option Value} {news : Led}
theorem r_sumN {D : Addr} {ts : List (Int × Tok)} {k : Nat} {Q : Value → Shared → Prop} (hh : A.handled = none) (F : Fr h₀ L s.heap m) (N : News h₀ L s.heap news) (hm : (D, listOf (valsN ts).toArray k) ∈ news)
    (h : ∀ h' tk t, Fr h₀ L h' m → News h₀ L h' news → Q (.int (ts.map (·.1)).sum t) { s with heap := h', toks := tk }) : wpAny (model prog w) A (call (.builtin "sum") [.ref D]) Q E s :=
  sumK hh F N (PySem.IsL.isList (n := k) (N _ hm).1) (intsAre_valsN ts) h
theorem r_inStrs {D : Addr} {ts : TS} {k : Nat} {x : Str} {t : Tok} {b : Bool} {Q : Value → Shared → Prop} (N : News h₀ L s.heap news) (hm : (D, listOf (valsS ts).toArray k) ∈ news) (hb : (ts.map (·.1)).contains x = b) (h : Q (.bool b) s) :
    wpAny (model prog w) A (compareOp .In (.str x t) (.ref D)) Q E s := by
  refine in_list_strs (PySem.IsL.isList (n := k) (N _ hm).1) (strsAre_valsS ts) ?_
  subst hb
  have e : (ts.map (·.1)).any (· == x) = (ts.map (·.1)).contains x := by
    rw [List.contains_eq_any_beq]
    congr 1
    funext y
    exact Bool.beq_comm
  rw [e]
  exact h
end
/-- the loads under one head -/
noncomputable def partF (hs : List Str) (ls : List Int) (top : Str) : List Int := ((hs.zip ls).filter fun q => q.1 == top).map (·.2)
theorem partF_at {hs : List Str} {ls : List Int} {top : Str} {i : Nat} {a : Str} {b : Int} (h1 : hs[i]? = some a) (h2 : ls[i]? = some b) : partF (hs.take (i + 1)) (ls.take (i + 1)) top = partF (hs.take i) (ls.take i) top ++ (if (a == top) = true then [b] else []) := by
  unfold partF
  rw [take_at h1, take_at h2, List.zip_append (by
    have l1 : i < hs.length := by
      rcases Nat.lt_or_ge i hs.length with h | h
      · exact h
      · rw [List.getElem?_eq_none h] at h1; cases h1
    have l2 : i < ls.length := by
      rcases Nat.lt_or_ge i ls.length with h | h
      · exact h
      · rw [List.getElem?_eq_none h] at h2; cases h2
    rw [List.length_take, List.length_take]
    lia), List.filter_append, List.map_append]
  congr 1
  cases hb : (a == top) <;> simp [hb]
noncomputable def partsF (ps hs : List Str) (ls : List Int) : List Int := (ps.filter fun p => hs.contains p).map fun p => (partF hs ls p).sum
theorem partsF_at {ps hs : List Str} {ls : List Int} {i : Nat} {a : Str} (h1 : ps[i]? = some a) : partsF (ps.take (i + 1)) hs ls = partsF (ps.take i) hs ls ++ (if hs.contains a = true then [(partF hs ls a).sum] else []) := by
  unfold partsF
  rw [take_at h1, List.filter_append, List.map_append]
  congr 1
  rw [List.filter_cons, List.filter_nil]
  split <;> rfl
theorem off4 {I C D K : Addr} {led : Led} (h : ∀ p ∈ led, (@LT.lt Nat _ p.1 I) ∧ (@LT.lt Nat _ p.1 C) ∧ (@LT.lt Nat _ p.1 D) ∧ (@LT.lt Nat _ p.1 K)) : AllLt I led ∧ AllLt C led ∧ AllLt D led ∧ AllLt K led :=
  ⟨allLt_of fun p hp => (h p hp).1, allLt_of fun p hp => (h p hp).2.1, allLt_of fun p hp => (h p hp).2.2.1, allLt_of fun p hp => (h p hp).2.2.2⟩
noncomputable abbrev s0 : Str := ⟨#[]⟩
noncomputable def madeF (ov : List Int) (ps hs : List Str) (n : Nat) : List Kv := ((List.range n).filter fun j => hs.getD (j + 1) s0 == ps.getD (j + 1) s0).map fun j => (Txt.upper (ps.getD (j + 1) s0), ps.getD (ov.getD (j + 1) 0).toNat s0)
theorem madeF_succ {ov : List Int} {ps hs : List Str} {n : Nat} : madeF ov ps hs (n + 1) = madeF ov ps hs n ++ (if (hs.getD (n + 1) s0 == ps.getD (n + 1) s0) = true then [(Txt.upper (ps.getD (n + 1) s0), ps.getD (ov.getD (n + 1) 0).toNat s0)] else []) := by
  unfold madeF
  rw [List.range_succ, List.filter_append, List.map_append]
  congr 1
  rw [List.filter_cons, List.filter_nil]
  split <;> rfl
theorem getD_mem_of {α : Type} {l : List α} {i : Nat} {d : α} (h : i < l.length) : l.getD i d ∈ l := by
  rw [List.getD_eq_getElem?_getD, List.getElem?_eq_getElem h]
  exact List.getElem_mem h
theorem hvals_snoc' {its : List HIt} {D : Addr} {p : Kv} : hvals (its ++ [(D, p)]) = hvals its ++ [.ref D] := by simp [hvals]
noncomputable def LenHSpecK (K : Params → Frag) (p : Program) (w : World) : Prop := ∀ (x d l : Addr) (t : Tok) (its : List HIt) (n : Nat), its.length ≤ 100 →
  CallOk K p w 90 [.ref x] [] (fun _ => True) (hdL w x d l t its n) 3 20 (fun _ v n₁ => ∃ y : Tok, v = .int its.length y ∧ n₁ = [] ++ hdL w x d l t its n)
theorem LenHSpec.k {K : Params → Frag} {p : Program} {w : World} (S : LenHSpec K p w) : LenHSpecK K p w := fun x d l t its n h mean mg mb dp un gd cn cs a ccd cl outer A₀ base h₀ L m s Q E b c d' e f g i j k hr =>
  S x d l t its n h mean mg mb dp un gd cn cs a ccd cl outer A₀ base h₀ L m s Q E b c d' e f g i j k (fun v n₁ h' tk' hR => hr v n₁ h' tk' (let ⟨⟨u, e⟩, r⟩ := hR; ⟨u, e, r⟩))
/-- the walk is to stop at every fork -/
structure Forks : Prop where
  out : True
end Mine
end
section
open PySem PySem.W PyProof.Rows PySem.Calls PySem.Spec PyProof.V
set_option maxRecDepth 100000
namespace Mine
section
variable {n : Nat} {s : Shared} {lt : Nat → Nat → Bool} {cmp : Nat → Nat → (Bool → Shared → Prop) → Shared → Prop}
/-- places of the items, each once -/
noncomputable def Placed (n : Nat) (p : Array Nat) : Prop := p.Perm (List.range n).toArray
structure Strict (n : Nat) (lt : Nat → Nat → Bool) : Prop where
  tr : ∀ a b c, lt a b = true → lt b c = true → lt a c = true
  as : ∀ a b, lt a b = true → lt b a = false
  tot : ∀ a b, a < n → b < n → a ≠ b → lt a b = true ∨ lt b a = true
theorem Placed.size {p : Array Nat} (h : Placed n p) : p.size = n := by
  have := h.size_eq
  simpa using this
theorem Placed.low {p : Array Nat} (h : Placed n p) {k : Nat} (hk : k < n) : p.getD k 0 < n := by
  have hs := h.size
  have e : p.getD k 0 = p[k] := by simp [Array.getD, show k < p.size by lia]
  rw [e]
  have hm : p[k] ∈ p := Array.getElem_mem _
  have := h.mem_iff.mp hm
  simpa using this
theorem Placed.ne {p : Array Nat} (h : Placed n p) {i j : Nat} (hi : i < n) (hj : j < n) (hij : i ≠ j) : p.getD i 0 ≠ p.getD j 0 := by
  have hs := h.size
  have e1 : p.getD i 0 = p[i] := by simp [Array.getD, show i < p.size by lia]
  have e2 : p.getD j 0 = p[j] := by simp [Array.getD, show j < p.size by lia]
  rw [e1, e2]
  intro e
  have hp : p.toList.Perm (List.range n) := by
    have := Array.perm_iff_toList_perm.mp h
    simpa using this
  have hn : p.toList.Nodup := hp.nodup_iff.mpr List.nodup_range
  have := (List.getElem_inj (h₀ := by simpa using (show i < p.size by lia)) (h₁ := by simpa using (show j < p.size by lia)) hn).mp (by simpa using e)
  exact hij this
noncomputable def SortedTo (lt : Nat → Nat → Bool) (p : Array Nat) (k : Nat) : Prop := ∀ i j, i < j → j < k → lt (p.getD i 0) (p.getD j 0) = true
theorem sorted_one (p : Array Nat) : SortedTo lt p 1 := fun i j h1 h2 => by lia
theorem sorted_ext {p : Array Nat} {m : Nat} (O : Strict n lt) (h : SortedTo lt p m) (hm : 1 ≤ m) (hx : lt (p.getD (m - 1) 0) (p.getD m 0) = true) : SortedTo lt p (m + 1) := fun i j h1 h2 => by
  rcases Nat.lt_or_ge j m with hj | hj
  · exact h i j h1 hj
  · have e : j = m := by lia
    subst e
    rcases Nat.lt_or_ge i (j - 1) with hi | hi
    · exact O.tr _ _ _ (h i (j - 1) hi (by lia)) hx
    · rw [show i = j - 1 by lia]; exact hx
theorem asc_wp (O : Strict n lt) (hc : ∀ i j C, i < n → j < n → C (lt i j) s → cmp i j C s) {p : Array Nat} (P : Placed n p) {Q : Nat → Shared → Prop} : ∀ (f m : Nat), 1 ≤ m → m + f = n → SortedTo lt p m →
    (∀ r, m ≤ r → r ≤ n → SortedTo lt p r → (m < n → lt (p.getD m 0) (p.getD (m - 1) 0) = false → m < r) → Q r s) → (kas_asc p f m).kasWp cmp Q s
  | 0, m, h1, h2, hs, hq => hq m (Nat.le_refl _) (by lia) hs (fun h => by lia)
  | f + 1, m, h1, h2, hs, hq => by
    have a := P.low (k := m) (by lia)
    have b := P.low (k := m - 1) (by lia)
    show cmp _ _ _ _
    refine hc _ _ _ a b ?_
    cases hb : lt (p.getD m 0) (p.getD (m - 1) 0) with
    | true =>
      simp only [if_true]
      exact hq m (Nat.le_refl _) (by lia) hs (fun _ h => by rw [hb] at h; cases h)
    | false =>
      simp only [Bool.false_eq_true, if_false]
      have hx : lt (p.getD (m - 1) 0) (p.getD m 0) = true := (O.tot _ _ b a (P.ne (by lia) (by lia) (by lia))).resolve_right (by rw [hb]; exact Bool.false_ne_true)
      exact asc_wp O hc P f (m + 1) (by lia) (by lia) (sorted_ext O hs h1 hx) (fun r a1 a2 a3 _ => hq r (by lia) a2 a3 (fun _ _ => by lia))
/-- a run that falls -/
noncomputable def FallsTo (lt : Nat → Nat → Bool) (p : Array Nat) (k : Nat) : Prop := ∀ i j, i < j → j < k → lt (p.getD j 0) (p.getD i 0) = true
theorem falls_ext {p : Array Nat} {m : Nat} (O : Strict n lt) (h : FallsTo lt p m) (hm : 1 ≤ m) (hx : lt (p.getD m 0) (p.getD (m - 1) 0) = true) : FallsTo lt p (m + 1) := fun i j h1 h2 => by
  rcases Nat.lt_or_ge j m with hj | hj
  · exact h i j h1 hj
  · have e : j = m := by lia
    subst e
    rcases Nat.lt_or_ge i (j - 1) with hi | hi
    · exact O.tr _ _ _ hx (h i (j - 1) hi (by lia))
    · rw [show i = j - 1 by lia]; exact hx
theorem desc_wp (O : Strict n lt) (hc : ∀ i j C, i < n → j < n → C (lt i j) s → cmp i j C s) {p : Array Nat} (P : Placed n p) {Q : Array Nat × Nat × Nat → Shared → Prop} : ∀ (f m : Nat), 1 ≤ m → m + f = n → FallsTo lt p m →
    (∀ r, m ≤ r → r ≤ n → FallsTo lt p r → Q (p, r, 0) s) → (kas_desc f p m 0).kasWp cmp Q s
  | 0, m, h1, h2, hs, hq => hq m (Nat.le_refl _) (by lia) hs
  | f + 1, m, h1, h2, hs, hq => by
    have a := P.low (k := m) (by lia)
    have b := P.low (k := m - 1) (by lia)
    show cmp _ _ _ _
    refine hc _ _ _ a b ?_
    cases hb : lt (p.getD m 0) (p.getD (m - 1) 0) with
    | true =>
      simp only [if_true, Nat.lt_irrefl, gt_iff_lt, if_false]
      exact desc_wp O hc P f (m + 1) (by lia) (by lia) (falls_ext O hs h1 hb) (fun r a1 a2 a3 => hq r (by lia) a2 a3)
    | false =>
      simp only [Bool.false_eq_true, if_false]
      have hx : lt (p.getD (m - 1) 0) (p.getD m 0) = true := (O.tot _ _ b a (P.ne (by lia) (by lia) (by lia))).resolve_right (by rw [hb]; exact Bool.false_ne_true)
      show cmp _ _ _ _
      refine hc _ _ _ b a ?_
      rw [hx]
      simp only [if_true]
      exact hq m (Nat.le_refl _) (by lia) hs
theorem rev_at {p : Array Nat} {m k : Nat} (hm : m ≤ p.size) (hk : k < m) : (kas_rev p 0 m).getD k 0 = p.getD (m - 1 - k) 0 := by
  have h := getElem?_mirror_all (i := 0) hm k
  unfold kas_rev
  rw [Array.getD_eq_getD_getElem?, Array.getD_eq_getD_getElem?, h]
  rw [if_pos ⟨Nat.zero_le _, hk⟩]
  congr 2
  lia
theorem rev_sorted {p : Array Nat} {m : Nat} (hm : m ≤ p.size) (h : FallsTo lt p m) : SortedTo lt (kas_rev p 0 m) m := fun i j h1 h2 => by
  rw [rev_at hm (by lia), rev_at hm h2]
  exact h _ _ (by lia) (by lia)
theorem rev_placed {p : Array Nat} {m : Nat} (P : Placed n p) : Placed n (kas_rev p 0 m) := (mirror_perm _ _ _ _).trans P
theorem tail_wp (O : Strict n lt) (hc : ∀ i j C, i < n → j < n → C (lt i j) s → cmp i j C s) {p : Array Nat} (P : Placed n p) {Q : Nat × Array Nat → Shared → Prop} {m : Nat} (h1 : 1 ≤ m) (h2 : m ≤ n) (hf : FallsTo lt p m)
    (hq : ∀ r p', 1 ≤ r → r ≤ n → Placed n p' → SortedTo lt p' r → Q (r, p') s) : (kas_tail3 m n p).kasWp cmp Q s := by
  unfold kas_tail3
  rw [KasT.kasWp_bind]
  exact asc_wp O hc (rev_placed P) (n - m) m h1 (by lia) (rev_sorted (by rw [P.size]; exact h2) hf) (fun r a1 a2 a3 _ => hq r _ (by lia) a2 (rev_placed P) a3)
theorem count_wp (O : Strict n lt) (hc : ∀ i j C, i < n → j < n → C (lt i j) s → cmp i j C s) {p : Array Nat} (P : Placed n p) {Q : Nat × Array Nat → Shared → Prop} (h2 : 2 ≤ n)
    (hq : ∀ r p', 1 ≤ r → r ≤ n → Placed n p' → SortedTo lt p' r → Q (r, p') s) : (kas_count n p).kasWp cmp Q s := by
  unfold kas_count
  rw [KasT.kasWp_bind]
  refine asc_wp O hc P (n - 1) 1 (Nat.le_refl _) (by lia) (sorted_one p) (fun r a1 a2 a3 a4 => ?_)
  by_cases e : r = n
  · rw [if_pos (by simpa using e)]
    exact hq r p a1 a2 P a3
  · rw [if_neg (by simpa using e)]
    by_cases h1 : r > 1
    · rw [if_pos h1]
      show cmp _ _ _ _
      refine hc _ _ _ (P.low (by lia)) (P.low (by lia)) ?_
      rw [a3 0 (r - 1) (by lia) (by lia)]
      simp only [if_true]
      exact hq r p a1 a2 P a3
    · rw [if_neg h1]
      have e1 : r = 1 := by lia
      subst e1
      have hx : lt (p.getD 1 0) (p.getD 0 0) = true := by
        cases hb : lt (p.getD 1 0) (p.getD 0 0) with
        | true => rfl
        | false => have := a4 (by lia) hb; lia
      have f2 : FallsTo lt p 2 := fun i j b1 b2 => by
        rw [show i = 0 by lia, show j = 1 by lia]; exact hx
      unfold kas_descPart
      rw [KasT.kasWp_bind]
      refine desc_wp O hc P (n - (1 + 1)) 2 (by lia) (by lia) f2 (fun r b1 b2 b3 => ?_)
      simp only [gt_iff_lt, Nat.lt_irrefl, if_false]
      exact tail_wp O hc P (by lia) b2 b3 hq
theorem place_wp (O : Strict n lt) (hc : ∀ i j C, i < n → j < n → C (lt i j) s → cmp i j C s) {p : Array Nat} (P : Placed n p) {k : Nat} (hk : k < n) {Q : Nat → Shared → Prop} (hs : SortedTo lt p k) : ∀ (f l r : Nat), l ≤ r → r ≤ k → r - l ≤ f →
    (∀ i, i < l → lt (p.getD i 0) (p.getD k 0) = true) → (∀ i, r ≤ i → i < k → lt (p.getD k 0) (p.getD i 0) = true) →
    (∀ x, x ≤ k → (∀ i, i < x → lt (p.getD i 0) (p.getD k 0) = true) → (∀ i, x ≤ i → i < k → lt (p.getD k 0) (p.getD i 0) = true) → Q x s) → (kas_place p k f l r).kasWp cmp Q s
  | 0, l, r, h1, h2, h3, hl, hr, hq => hq l (by lia) hl (fun i a b => hr i (by lia) b)
  | f + 1, l, r, h1, h2, h3, hl, hr, hq => by
    unfold kas_place
    by_cases h : l ≥ r
    · rw [if_pos h]
      exact hq l (by lia) hl (fun i a b => hr i (by lia) b)
    · rw [if_neg h]
      have hm : (l + r) / 2 < k := by lia
      have hm1 : l ≤ (l + r) / 2 := by lia
      have hm2 : (l + r) / 2 < r := by lia
      generalize (l + r) / 2 = md at hm hm1 hm2 ⊢
      show cmp _ _ _ _
      refine hc _ _ _ (P.low hk) (P.low (by lia)) ?_
      cases hb : lt (p.getD k 0) (p.getD md 0) with
      | true =>
        simp only [if_true]
        refine place_wp O hc P hk hs f l md hm1 (by lia) (by lia) hl (fun i a b => ?_) hq
        rcases Nat.lt_or_ge md i with h | h
        · exact O.tr _ _ _ hb (hs md i h b)
        · rw [show i = md by lia]; exact hb
      | false =>
        simp only [Bool.false_eq_true, if_false]
        have hx : lt (p.getD md 0) (p.getD k 0) = true := (O.tot _ _ (P.low (by lia)) (P.low hk) (P.ne (by lia) hk (by lia))).resolve_right (by rw [hb]; exact Bool.false_ne_true)
        refine place_wp O hc P hk hs f (md + 1) r (by lia) h2 (by lia) (fun i a => ?_) hr hq
        rcases Nat.lt_or_ge i md with h | h
        · exact O.tr _ _ _ (hs i md h hm) hx
        · rw [show i = md by lia]; exact hx
theorem bubble_at {p : Array Nat} {k x i : Nat} (hk : k < p.size) (hx : x ≤ k) : (bubble p k (k - x)).getD i 0 = if i = x then p.getD k 0 else if x < i ∧ i ≤ k then p.getD (i - 1) 0 else p.getD i 0 := by
  rw [Array.getD_eq_getD_getElem?, getElem?_bubble hk _ (by lia) i, show k - (k - x) = x by lia]
  repeat' split
  all_goals first
    | rfl
    | (rw [Array.getD_eq_getD_getElem?])
    | (simp [Array.getD_eq_getD_getElem?, hk])
theorem bubble_sorted {p : Array Nat} {k x : Nat} (hk : k < p.size) (hx : x ≤ k) (hs : SortedTo lt p k) (h1 : ∀ i, i < x → lt (p.getD i 0) (p.getD k 0) = true) (h2 : ∀ i, x ≤ i → i < k → lt (p.getD k 0) (p.getD i 0) = true) : SortedTo lt (bubble p k (k - x)) (k + 1) := fun i j a b => by
  rw [bubble_at hk hx, bubble_at hk hx]
  by_cases e1 : i = x
  · rw [if_pos e1, if_neg (by lia), if_pos (by lia)]
    exact h2 _ (by lia) (by lia)
  · rw [if_neg e1]
    by_cases e2 : j = x
    · rw [if_pos e2, if_neg (by lia)]
      exact h1 _ (by lia)
    · rw [if_neg e2]
      by_cases e3 : x < i ∧ i ≤ k
      · rw [if_pos e3, if_pos (by lia)]
        exact hs _ _ (by lia) (by lia)
      · rw [if_neg e3]
        by_cases e4 : x < j ∧ j ≤ k
        · rw [if_pos e4]; exact hs _ _ (by lia) (by lia)
        · rw [if_neg e4]; exact hs _ _ a (by lia)
theorem bin_wp (O : Strict n lt) (hc : ∀ i j C, i < n → j < n → C (lt i j) s → cmp i j C s) {Q : Array Nat → Shared → Prop} : ∀ (f k : Nat) (p : Array Nat), Placed n p → k + f = n → SortedTo lt p k →
    (∀ p', Placed n p' → SortedTo lt p' n → Q p' s) → (kas_bin f p k).kasWp cmp Q s
  | 0, k, p, P, h, hs, hq => hq p P (by rw [← h]; exact hs)
  | f + 1, k, p, P, h, hs, hq => by
    unfold kas_bin
    rw [KasT.kasWp_bind]
    refine place_wp O hc P (by lia) hs k 0 k (Nat.zero_le _) (Nat.le_refl _) (by lia) (fun i hi => by lia) (fun i a b => by lia) (fun x hx a b => ?_)
    exact bin_wp O hc f (k + 1) _ ((bubble_perm _ _ _).trans P) (by lia) (bubble_sorted (by rw [P.size]; lia) hx hs a b) hq
theorem sort_wp (O : Strict n lt) (hc : ∀ i j C, i < n → j < n → C (lt i j) s → cmp i j C s) {Q : Array Nat → Shared → Prop} (h2 : 2 ≤ n) (hq : ∀ p', Placed n p' → SortedTo lt p' n → Q p' s) : (kas_sort n).kasWp cmp Q s := by
  unfold kas_sort
  rw [KasT.kasWp_bind]
  refine count_wp O hc (Array.Perm.refl _) h2 (fun r p' a1 a2 P hs => ?_)
  dsimp only
  split
  · rename_i hr
    rw [show max r 1 = r by lia]
    exact bin_wp O hc (n - r) r p' P (by lia) hs hq
  · rename_i hr
    exact hq p' P (by rw [show n = r by lia]; exact hs)
end
end Mine
end
section
open PySem PySem.W PyProof.Rows PySem.Calls PySem.Spec PyProof.V
set_option maxRecDepth 100000
set_option maxHeartbeats 1000000
namespace Mine
noncomputable def ltK (p q : Kv) : Bool := if p.1 = q.1 then (if p.2 = q.2 then false else decide (p.2.cps.toList < q.2.cps.toList)) else decide (p.1.cps.toList < q.1.cps.toList)
section
variable {prog : Program} {w : World} {A : Around} {E : Value → Shared → Prop} {s : Shared}
theorem kv_lt {x y : Addr} {p q : Kv} {Q : Bool → Shared → Prop} (hx : KvAt s.heap x p) (hy : KvAt s.heap y q) (h : Q (ltK p q) s) : wpAny (model prog w) A (keyLt' (tuples' true) (.ref x) (.ref y)) Q E s := by
  obtain ⟨t, u, hx⟩ := hx
  obtain ⟨t', u', hy⟩ := hy
  refine kat_lt hx rfl hy rfl ?_
  refine kat_cons (wpAny_eqBool_str ?_)
  by_cases e1 : p.1 = q.1
  · rw [decide_eq_true e1]
    refine kat_yes (kat_cons (wpAny_eqBool_str ?_))
    by_cases e2 : p.2 = q.2
    · rw [decide_eq_true e2]
      refine kat_yes (kat_nil ?_)
      have : ltK p q = false := by simp [ltK, e1, e2]
      rw [this] at h
      exact h
    · rw [decide_eq_false e2]
      refine kat_no ?_
      have : ltK p q = decide (p.2.cps.toList < q.2.cps.toList) := by simp [ltK, e1, e2]
      rw [this] at h
      exact kat_one _ _ (lt_str h)
  · rw [decide_eq_false e1]
    refine kat_no ?_
    have : ltK p q = decide (p.1.cps.toList < q.1.cps.toList) := by simp [ltK, e1]
    rw [this] at h
    exact oneLt_str h
end
theorem katTups_of {h : Heap} : ∀ {its : List HIt}, HAt h its → ∃ fs : List Value, KatTups h (hvals its) fs ∧ fs.length = its.length ∧ ∀ v ∈ fs, ∃ x t, v = .str x t
  | [], _ => ⟨[], KatTups.nil, rfl, fun _ h => nomatch h⟩
  | q :: r, ht => by
    obtain ⟨fs, h1, h2, h3⟩ := katTups_of (its := r) (fun x hx => ht x (.tail _ hx))
    obtain ⟨t, u, e⟩ := ht q (.head _)
    exact ⟨.str q.2.1 t :: fs, KatTups.cons e rfl rfl rfl h1, by simp [h2], List.forall_mem_cons.mpr ⟨⟨_, _, rfl⟩, h3⟩⟩
theorem str_lt_total {a b : Str} (h : a ≠ b) : a.cps.toList < b.cps.toList ∨ b.cps.toList < a.cps.toList := by
  by_cases h1 : a.cps.toList < b.cps.toList
  · exact .inl h1
  · by_cases h2 : b.cps.toList < a.cps.toList
    · exact .inr h2
    · exact absurd (cps_ext (List.le_antisymm (List.not_lt.mp h2) (List.not_lt.mp h1))) h
theorem ltK_as {p q : Kv} (h : ltK p q = true) : ltK q p = false := by
  unfold ltK at h ⊢
  by_cases e1 : p.1 = q.1
  · rw [if_pos e1] at h
    rw [if_pos e1.symm]
    by_cases e2 : p.2 = q.2
    · rw [if_pos e2] at h; cases h
    · rw [if_neg e2] at h
      rw [if_neg (Ne.symm e2)]
      exact decide_eq_false (List.lt_asymm (of_decide_eq_true h))
  · rw [if_neg e1] at h
    rw [if_neg (Ne.symm e1)]
    exact decide_eq_false (List.lt_asymm (of_decide_eq_true h))
theorem ltK_tr {p q r : Kv} (h1 : ltK p q = true) (h2 : ltK q r = true) : ltK p r = true := by
  unfold ltK at *
  by_cases e1 : p.1 = q.1
  · rw [if_pos e1] at h1
    by_cases e2 : p.2 = q.2
    · rw [if_pos e2] at h1; cases h1
    rw [if_neg e2] at h1
    by_cases e3 : q.1 = r.1
    · rw [if_pos e3] at h2
      by_cases e4 : q.2 = r.2
      · rw [if_pos e4] at h2; cases h2
      rw [if_neg e4] at h2
      have h3 := List.lt_trans (of_decide_eq_true h1) (of_decide_eq_true h2)
      rw [if_pos (e1.trans e3), if_neg (fun e => by rw [e] at h3; exact List.lt_irrefl _ h3)]
      exact decide_eq_true h3
    · rw [if_neg e3] at h2
      rw [if_neg (by rw [e1]; exact e3), e1]
      exact h2
  · rw [if_neg e1] at h1
    by_cases e3 : q.1 = r.1
    · rw [if_neg (by rw [← e3]; exact e1), ← e3]
      exact h1
    · rw [if_neg e3] at h2
      have h3 := List.lt_trans (of_decide_eq_true h1) (of_decide_eq_true h2)
      rw [if_neg (fun e => by rw [e] at h3; exact List.lt_irrefl _ h3)]
      exact decide_eq_true h3
theorem ltK_tot {p q : Kv} (h : p ≠ q) : ltK p q = true ∨ ltK q p = true := by
  unfold ltK
  by_cases e1 : p.1 = q.1
  · have e2 : p.2 ≠ q.2 := fun e => h (Prod.ext e1 e)
    rw [if_pos e1, if_neg e2, if_pos e1.symm, if_neg (Ne.symm e2)]
    rcases str_lt_total e2 with h | h
    · exact .inl (decide_eq_true h)
    · exact .inr (decide_eq_true h)
  · rw [if_neg e1, if_neg (Ne.symm e1)]
    rcases str_lt_total e1 with h | h
    · exact .inl (decide_eq_true h)
    · exact .inr (decide_eq_true h)
theorem pairwise_small {α : Type} {R : α → α → Prop} : ∀ {l : List α}, l.length < 2 → l.Pairwise R
  | [], _ => List.Pairwise.nil
  | [_], _ => List.pairwise_singleton _ _
  | _ :: _ :: _, h => absurd h (by simp)
noncomputable abbrev d0 : HIt := (0, (⟨#[]⟩, ⟨#[]⟩))
/-- by places -/
noncomputable def ltAt (its : List HIt) (i j : Nat) : Bool := ltK (its.getD i d0).2 (its.getD j d0).2
theorem ltAt_strict {its : List HIt} (hn : (its.map (·.2)).Nodup) : Strict its.length (ltAt its) := ⟨fun _ _ _ => ltK_tr, fun _ _ => ltK_as, fun a b ha hb hab => ltK_tot (fun e => by
  have e1 : (its.getD a d0).2 = (its.map (·.2))[a]'(by rw [List.length_map]; exact ha) := by simp [List.getD_eq_getElem?_getD, ha]
  have e2 : (its.getD b d0).2 = (its.map (·.2))[b]'(by rw [List.length_map]; exact hb) := by simp [List.getD_eq_getElem?_getD, hb]
  rw [e1, e2] at e
  exact hab ((List.getElem_inj hn).mp e))⟩
section
variable {prog : Program} {w : World} {A : Around} {E : Value → Shared → Prop} {s : Shared} {h₀ : Heap} {L : Addr} {m : Str → Option Value} {news : Led}
theorem small_list_sort {a : Addr} {vs : List Value} {n : Nat} {P : PySem.Fin → Shared → Prop} (F : Fr h₀ L s.heap m) (N : News h₀ L s.heap news) (ho : s.heap.get? a = some (seqObj "list" vs.toArray n)) (haL : a ≠ L) (ha0 : h₀.get? a = none) (hna : ∀ p ∈ news, p.1 ≠ a)
    (h2 : vs.length < 2) (h : ∀ h' c, Fr h₀ L h' m → News h₀ L h' ((a, listOf vs.toArray c) :: news) → P (.done (.ret .none)) { s with heap := h' }) :
    wpAny (model prog w) A (Builtin.«list.sort» ⟨[.ref a], []⟩) P E s := by
  have s1 := Heap.SameBut.update s.heap a (Obj.mapSeq fun _ => (#[] : Array Value))
  obtain ⟨e1, ho1⟩ : ∃ e1, (s.heap.update a (Obj.mapSeq fun _ => (#[] : Array Value))).get? a = some (seqObj "list" #[] e1) := ⟨_, get?_update_seq ho fun _ => #[]⟩
  have F3 := ((kas_fr F s1 haL ha0).push (seqObj "tuple" vs.toArray 0)).push (seqObj "list" #[] 0)
  have N2 : News h₀ L (((s.heap.update a (Obj.mapSeq fun _ => (#[] : Array Value))).push (seqObj "tuple" vs.toArray 0)).push (seqObj "list" #[] 0)) news :=
    (kas_news N s1 hna).grown fun b x e => Heap.get?_push_of_some _ (Heap.get?_push_of_some _ e)
  have ho3 : (((s.heap.update a (Obj.mapSeq fun _ => (#[] : Array Value))).push (seqObj "tuple" vs.toArray 0)).push (seqObj "list" #[] 0)).get? a = some (seqObj "list" #[] e1) := Heap.get?_push_of_some _ (Heap.get?_push_of_some _ ho1)
  rw [list_sort_plain]
  refine wpAny_bind (listItems_at ho rfl ?_)
  refine wpAny_bind (listUpdate_at ho rfl ?_ (by rw [List.size_toArray, sizeLine_eq]; lia) (Nat.zero_le _))
  refine wpAny_bind (seqEpoch_at ho1 rfl ?_)
  refine wpAny_bind (wpAny_newTuple ?_ (by show vs.length ≤ _; rw [sizeLine_eq]; lia))
  refine wpAny_bind (wpAny_newList ?_ (Nat.zero_le _))
  refine wpAny_holding ?_
  show wpAny (model prog w) A _ P E { s with heap := ((s.heap.update a (Obj.mapSeq fun _ => (#[] : Array Value))).push (seqObj "tuple" vs.toArray 0)).push (seqObj "list" #[] 0) }
  generalize ((s.heap.update a (Obj.mapSeq fun _ => (#[] : Array Value))).push (seqObj "tuple" vs.toArray 0)).push (seqObj "list" #[] 0) = H at F3 N2 ho3 ⊢
  dsimp only
  have hn2 : vs.toArray.size < 2 := by rw [List.size_toArray]; exact h2
  rw [if_pos hn2, if_pos hn2]
  refine wpAny_bind (wpAny_pure ?_)
  refine wpAny_bind (wpAny_pure ?_)
  dsimp only
  have e : Array.map (fun x : Keyed => x.snd) (arrOf (SortSt.mk' general' (vs.toArray.zip vs.toArray) #[] 7 none)) = vs.toArray := by
    show (vs.toArray.zip vs.toArray).map (fun x : Keyed => x.snd) = vs.toArray
    apply Array.toList_inj.mp
    rw [Array.toList_map, Array.toList_zip]
    exact List.map_snd_zip (Nat.le_refl _)
  rw [e]
  refine wpAny_bind (seqEpoch_at ho3 rfl ?_)
  have s2 := Heap.SameBut.update H a (Obj.mapSeq fun _ => vs.toArray)
  obtain ⟨c2, hc2⟩ : ∃ c2, (H.update a (Obj.mapSeq fun _ => vs.toArray)).get? a = some (seqObj "list" vs.toArray c2) := ⟨_, get?_update_seq ho3 fun _ => vs.toArray⟩
  refine wpAny_bind (listUpdate_at ho3 rfl ?_ (Nat.zero_le _) (by rw [List.size_toArray, sizeLine_eq]; lia))
  simp only [bne_self_eq_false, Bool.false_eq_true, if_false]
  refine wpAny_pure (h _ c2 (kas_fr F3 s2 haL ha0) fun p hp => ?_)
  rcases List.mem_cons.mp hp with rfl | hp
  · exact ⟨hc2, haL, ha0⟩
  · exact kas_news N2 s2 hna p hp
theorem small_sorted {l : Addr} {vs : List Value} {Q : Value → Shared → Prop} (F : Fr h₀ L s.heap m) (N : News h₀ L s.heap news) (hl : s.heap.IsList l vs.toArray) (h2 : vs.length < 2)
    (h : ∀ D c h', Fr h₀ L h' m → News h₀ L h' ((D, listOf vs.toArray c) :: news) → (∀ q ∈ news, q.1 < D) → Q (.ref D) { s with heap := h' }) :
    wpAny (model prog w) A (call (.builtin "sorted") [.ref l]) Q E s := by
  refine Calls.call_function_entry kind_sorted plain_sorted entry_sorted (args_sorted1 _) ?_
  unfold Builtin.«sorted»
  refine wpAny_bind (m := checkCount "sorted" 1 1 _) (wpAny_pure ?_)
  refine wpAny_bind (collect_list hl ?_ (by rw [sizeLine_eq]; lia))
  refine wpAny_bind (wpAny_newList ?_ (by rw [sizeLine_eq]; lia))
  have hsz : ((s.heap.push (seqObj "list" #[] 0)).update s.heap.objs.size (Obj.mapSeq (· ++ vs.toArray))).objs.size = s.heap.objs.size + 1 := by
    rw [Heap.size_update, size_push']
  have hoL : (((s.heap.push (seqObj "list" #[] 0)).update s.heap.objs.size (Obj.mapSeq (· ++ vs.toArray))).push (seqObj "list" vs.toArray 0)).get? (s.heap.objs.size + 1) = some (seqObj "list" vs.toArray 0) := by
    rw [← hsz]; exact Heap.get?_push_size _ rfl
  have keep : ∀ b o, s.heap.get? b = some o → (((s.heap.push (seqObj "list" #[] 0)).update s.heap.objs.size (Obj.mapSeq (· ++ vs.toArray))).push (seqObj "list" vs.toArray 0)).get? b = some o := fun b o q => by
    have hlt : b < s.heap.objs.size := Heap.lt_size q
    rw [Heap.get?_push_ne _ _ _ (by rw [hsz]; exact Nat.ne_of_lt (Nat.lt_succ_of_lt hlt)), Heap.get?_update_ne _ _ _ _ (Nat.ne_of_lt hlt), Heap.get?_push_ne _ _ _ (Nat.ne_of_lt hlt)]
    exact q
  have hL : L < s.heap.objs.size := F.ns.lt
  show wpAny _ _ _ _ _ { s with heap := ((s.heap.push (seqObj "list" #[] 0)).update s.heap.objs.size (Obj.mapSeq (· ++ vs.toArray))).push (seqObj "list" vs.toArray 0) }
  rw [hsz]
  refine wpAny_bind (wpAny_holding (wpAny_call_entry slot_list_sort ⟨_, hoL, rfl⟩ entry_list_sort ?body (args_list_sort _)))
  case body =>
    exact small_list_sort (s := { s with heap := ((s.heap.push (seqObj "list" #[] 0)).update s.heap.objs.size (Obj.mapSeq (· ++ vs.toArray))).push (seqObj "list" vs.toArray 0) })
      (F.kept keep) (N.grown keep) hoL (Nat.ne_of_gt (Nat.lt_succ_of_lt hL)) (Heap.get?_none_of_le (Nat.le_trans F.above (Nat.le_succ_of_le (Nat.le_of_lt hL))))
      (fun p hp => Nat.ne_of_lt (Nat.lt_succ_of_lt (Heap.lt_size (N p hp).1))) h2 fun h' c F' N' => ⟨_, rfl, wpAny_pure ⟨_, rfl, h _ c h' F' N' fun q hq => Nat.lt_succ_of_lt (Heap.lt_size (N q hq).1)⟩⟩
/-- sorted() of pairs of strs -/
theorem r_sortedKv {l : Addr} {its : List HIt} {k : Nat} {Q : Value → Shared → Prop} (F : Fr h₀ L s.heap m) (N : News h₀ L s.heap news) (hm : (l, listOf (hvals its).toArray k) ∈ news) (hat : ∀ h, News h₀ L h news → HAt h its) (hn : (its.map (·.2)).Nodup) (h64 : its.length < 64)
    (h : ∀ D c h' (its' : List HIt), its'.Perm its → (its'.map (·.2)).Pairwise (fun p q => ltK p q = true) → Fr h₀ L h' m → News h₀ L h' ((D, listOf (hvals its').toArray c) :: news) → (∀ q ∈ news, q.1 < D) → Q (.ref D) { s with heap := h' }) :
    wpAny (model prog w) A (call (.builtin "sorted") [.ref l]) Q E s := by
  have hl := PySem.IsL.isList (n := k) (N _ hm).1
  have hvl : (hvals its).length = its.length := List.length_map ..
  by_cases h2 : its.length < 2
  · refine small_sorted F N hl (by rw [hvl]; exact h2) fun D c h' F' N' l' => h D c h' its (List.Perm.refl _) ?_ F' N' l'
    exact pairwise_small (by rw [List.length_map]; exact h2)
  · refine kat_sorted F N hl (by rw [hvl]; lia) (by rw [hvl]; exact h64) fun D e1 h' F' N' l' => ?_
    have N'' : News h₀ L h' news := fun p hp => N' p (.tail _ hp)
    obtain ⟨fs, h1, h3, h4⟩ := katTups_of (hat h' N'')
    refine kat_kind (T := .type "str") h1 (by lia) (fun v hv => ?_) (by decide) ?_
    · obtain ⟨x, t, rfl⟩ := h4 v hv
      exact Looks.of_pure rfl
    · rw [show ((Value.type "str" != Value.type "tuple") : Bool) = true by decide, hvl]
      refine sort_wp (n := its.length) (lt := ltAt its) (ltAt_strict hn) (fun i j C hi hj hC => ?_) (by lia) (fun p' P hs => ?_)
      · unfold kas_ask
        have gi : (hvals its).getD i Value.none = .ref (its.getD i d0).1 := by simp [List.getD_eq_getElem?_getD, hi]
        have gj : (hvals its).getD j Value.none = .ref (its.getD j d0).1 := by simp [List.getD_eq_getElem?_getD, hj]
        rw [gi, gj]
        have ha := hat h' N''
        exact kv_lt (ha _ (getD_mem_of hi)) (ha _ (getD_mem_of hj)) hC
      · have hp : p'.toList.Perm (List.range its.length) := by
          have := Array.perm_iff_toList_perm.mp P
          simpa using this
        have hlow : ∀ i ∈ p'.toList, i < its.length := fun i hi => by simpa using hp.mem_iff.mp hi
        have ev : (p'.toList.map fun i => (hvals its).getD i Value.none) = hvals (p'.toList.map fun i => its.getD i d0) := by
          unfold hvals
          rw [List.map_map]
          refine List.map_congr_left fun i hi => ?_
          have hi := hlow i hi
          simp [List.getD_eq_getElem?_getD, hi]
        rw [ev]
        refine KasFin.intro F' N' (UpdF.head (fun p hp => Nat.ne_of_lt (l' p hp))) (fun h'' c F'' N'' => ?_)
        refine h D c h'' _ ?_ ?_ F'' N'' l'
        · have h1 := hp.map (fun i => its.getD i d0)
          have h2 : (List.range its.length).map (fun i => its.getD i d0) = its := by
            apply List.ext_getElem
            · simp
            · intro i a b
              simp [List.getD_eq_getElem?_getD, b]
          rw [h2] at h1
          exact h1
        · rw [List.map_map, List.pairwise_map, List.pairwise_iff_getElem]
          intro i j hi hj hij
          have hz := P.size
          have h1 := hs i j hij (by simpa [hz] using hj)
          have e1 : p'.getD i 0 = p'.toList[i] := by
            have : i < p'.size := by simpa using hi
            simp [Array.getD, this]
          have e2 : p'.getD j 0 = p'.toList[j] := by
            have : j < p'.size := by simpa using hj
            simp [Array.getD, this]
          rw [e1, e2] at h1
          exact h1
end
end Mine
end
section
open PySem PySem.W PyProof.Rows PySem.Calls PySem.Spec PyProof.V PySem.SeqAt
set_option maxRecDepth 100000
namespace Mine
section
variable {prog : Program} {w : World} {A : Around} {E : Value → Shared → Prop} {s : Shared} {h₀ : Heap} {L : Addr} {m : Str → Option Value} {news : Led}
theorem eq_kv {x y : Addr} {p : Kv} (hu : A.units < cLine) (hx : KvAt s.heap x p) (hy : KvAt s.heap y p) : EqAt A s (.ref x) (.ref y) true := by
  by_cases e : x = y
  · subst e; exact EqAt.same _
  · obtain ⟨t, u, hx⟩ := hx
    obtain ⟨t', u', hy⟩ := hy
    refine EqAt.of_refs e ?_
    have h := RcAt.tuples (A := A) (s := s) (e := fun _ => true) (items := #[.str p.1 t, .str p.2 u]) (items2 := #[.str p.1 t', .str p.2 u']) ⟨_, hx, rfl, _, rfl⟩ ⟨_, hy, rfl, _, rfl⟩ hu (fun j h1 h2 => ?_)
    · exact h
    · match j, h1 with
      | 0, _ => have := EqAt.str_str (A := A.in1) (s := s) p.1 t p.1 t'; rw [beq_self_eq_true] at this; exact this
      | 1, _ => have := EqAt.str_str (A := A.in1) (s := s) p.2 u p.2 u'; rw [beq_self_eq_true] at this; exact this
theorem r_eqKv {a b : Addr} {xs ys : List HIt} {j k : Nat} {Q : Value → Shared → Prop} (hu : A.units < cLine) (hu2 : A.in1.units < cLine) (N : News h₀ L s.heap news) (ha : (a, listOf (hvals xs).toArray j) ∈ news) (hb : (b, listOf (hvals ys).toArray k) ∈ news) (hx : HAt s.heap xs) (hy : HAt s.heap ys)
    (e : xs.map (·.2) = ys.map (·.2)) (h : Q (.bool true) s) : wpAny (model prog w) A (compareOp .Eq (.ref a) (.ref b)) Q E s := by
  refine cmp_ofEq ?_
  have hl : xs.length = ys.length := by have := congrArg List.length e; rwa [List.length_map, List.length_map] at this
  have h1 := RcAt.lists (A := A) (s := s) (e := fun _ => true) (PySem.IsL.isList (n := j) (N _ ha).1) (PySem.IsL.isList (n := k) (N _ hb).1) (by simp [hl]) hu (fun i h1 h2 => ?_)
  · have e2 : (List.range (hvals xs).toArray.size).all (fun _ => true) = true := by simp
    rw [e2] at h1
    exact h1 _ _ _ _ h
  · have hi1 : i < xs.length := by simpa using h1
    have hi2 : i < ys.length := by simpa using h2
    have g1 : (hvals xs).toArray[i] = .ref (xs[i]).1 := by simp
    have g2 : (hvals ys).toArray[i] = .ref (ys[i]).1 := by simp
    rw [g1, g2]
    have ee : (xs[i]).2 = (ys[i]).2 := by
      have := congrArg (fun l => l[i]?) e
      simp only [List.getElem?_map, List.getElem?_eq_getElem hi1, List.getElem?_eq_getElem hi2, Option.map_some] at this
      exact Option.some.inj this
    exact eq_kv hu2 (hx _ (List.getElem_mem hi1)) (ee ▸ hy _ (List.getElem_mem hi2))
end
theorem sorted_eq {a b : List Kv} (ha : a.Pairwise (fun p q => ltK p q = true)) (hb : b.Pairwise (fun p q => ltK p q = true)) (h : a.Perm b) : a = b := by
  induction a generalizing b with
  | nil => exact (List.nil_perm.mp h).symm
  | cons x r ih =>
    cases b with
    | nil => exact absurd h.length_eq (by simp)
    | cons y t =>
      rw [List.pairwise_cons] at ha hb
      have hxy : x = y := by
        rcases List.mem_cons.mp (h.mem_iff.mp (.head _)) with e | hm
        · exact e
        · rcases List.mem_cons.mp (h.mem_iff.mpr (.head _)) with e | hm2
          · exact e.symm
          · have h1 := hb.1 x hm
            have h2 := ha.1 y hm2
            rw [ltK_as h1] at h2
            cases h2
      subst hxy
      rw [ih ha.2 hb.2 h.cons_inv]
section
variable {prog : Program} {w : World} {A : Around} {E : Value → Shared → Prop} {s : Shared} {h₀ : Heap} {L : Addr} {news : Led}
theorem r_eqTwo {a b : Addr} {x y x' y' : Int} {t u t' u' : Tok} {Q : Value → Shared → Prop} (hu : A.units < cLine) (N : News h₀ L s.heap news) (ha : (a, tup2 [.int x t, .int y u]) ∈ news) (hb : (b, tup2 [.int x' t', .int y' u']) ∈ news) (e1 : x = x') (e2 : y = y') (h : Q (.bool true) s) :
    wpAny (model prog w) A (compareOp .Eq (.ref a) (.ref b)) Q E s := by
  subst e1 e2
  refine cmp_ofEq ?_
  have h1 := RcAt.tuples (A := A) (s := s) (e := fun _ => true) (items := #[.int x t, .int y u]) (items2 := #[.int x t', .int y u']) ⟨_, (N _ ha).1, rfl, _, rfl⟩ ⟨_, (N _ hb).1, rfl, _, rfl⟩ hu (fun j h1 h2 => ?_)
  · exact h1 _ _ _ _ h
  · match j, h1 with
    | 0, _ => have := EqAt.int_int (A := A.in1) (s := s) x t x t'; rw [beq_self_eq_true] at this; exact this
    | 1, _ => have := EqAt.int_int (A := A.in1) (s := s) y u y u'; rw [beq_self_eq_true] at this; exact this
end
end Mine
end
section
namespace Mine
/-- a sum over the numbers below n -/
noncomputable def sm : Nat → (Nat → Int) → Int
  | 0, _ => 0
  | n + 1, f => sm n f + f n
theorem sm_congr {f g : Nat → Int} : ∀ {n : Nat}, (∀ i, i < n → f i = g i) → sm n f = sm n g
  | 0, _ => rfl
  | n + 1, h => by
    unfold sm
    rw [sm_congr (n := n) fun i hi => h i (by lia), h n (by lia)]
theorem sm_le {f g : Nat → Int} : ∀ {n : Nat}, (∀ i, i < n → f i ≤ g i) → sm n f ≤ sm n g
  | 0, _ => Int.le_refl _
  | n + 1, h => by
    unfold sm
    have := sm_le (n := n) fun i hi => h i (by lia)
    have := h n (by lia)
    lia
theorem sm_add {f g : Nat → Int} : ∀ {n : Nat}, sm n (fun i => f i + g i) = sm n f + sm n g
  | 0 => rfl
  | n + 1 => by
    simp only [sm]
    rw [sm_add (n := n)]
    lia
theorem sm_mul {c : Int} {f : Nat → Int} : ∀ {n : Nat}, sm n (fun i => c * f i) = c * sm n f
  | 0 => by simp [sm]
  | n + 1 => by
    unfold sm
    rw [sm_mul (n := n), Int.mul_add]
theorem sm_zero {f : Nat → Int} : ∀ {n : Nat}, (∀ i, i < n → f i = 0) → sm n f = 0
  | 0, _ => rfl
  | n + 1, h => by
    unfold sm
    rw [sm_zero (n := n) fun i hi => h i (by lia), h n (by lia)]
    rfl
theorem sm_one {f : Nat → Int} {a : Nat} : ∀ {n : Nat}, a < n → sm n (fun i => if i = a then f i else 0) = f a
  | n + 1, h => by
    unfold sm
    by_cases e : n = a
    · subst e
      rw [sm_zero fun i hi => if_neg (by lia)]
      simp
    · rw [sm_one (n := n) (by lia)]
      simp [e]
theorem sm_first {f : Nat → Int} : ∀ {n : Nat}, 0 < n → sm n f = f 0 + sm n (fun w => if 1 ≤ w then f w else 0)
  | 1, _ => by simp [sm]
  | n + 2, _ => by
    rw [sm, sm_first (n := n + 1) (by lia)]
    show _ = f 0 + (sm (n + 1) _ + if 1 ≤ n + 1 then f (n + 1) else 0)
    rw [if_pos (by lia)]
    lia
/-- the sum over the children of v -/
noncomputable def S (N : Nat) (par : Nat → Nat) (v : Nat) (f : Nat → Int) : Int := sm N fun w => if 1 ≤ w ∧ par w = v then f w else 0
theorem S_congr {N : Nat} {par : Nat → Nat} {v : Nat} {f g : Nat → Int} (h : ∀ w, 1 ≤ w → w < N → par w = v → f w = g w) : S N par v f = S N par v g :=
  sm_congr fun w hw => by
    by_cases e : 1 ≤ w ∧ par w = v
    · rw [if_pos e, if_pos e, h w e.1 hw e.2]
    · rw [if_neg e, if_neg e]
theorem S_le {N : Nat} {par : Nat → Nat} {v : Nat} {f g : Nat → Int} (h : ∀ w, 1 ≤ w → w < N → par w = v → f w ≤ g w) : S N par v f ≤ S N par v g :=
  sm_le fun w hw => by
    by_cases e : 1 ≤ w ∧ par w = v
    · rw [if_pos e, if_pos e]; exact h w e.1 hw e.2
    · rw [if_neg e, if_neg e]; exact Int.le_refl _
theorem S_lin {N : Nat} {par : Nat → Nat} {v : Nat} {a b e : Nat → Int} {t : Int} : S N par v (fun w => a w - t * (b w - e w)) = S N par v a - t * (S N par v b - S N par v e) := by
  unfold S
  induction N with
  | zero => simp [sm]
  | succ n ih =>
    simp only [sm]
    rw [ih]
    by_cases c : 1 ≤ n ∧ par n = v
    · rw [if_pos c, if_pos c, if_pos c, if_pos c]
      simp only [Int.mul_sub, Int.mul_add]
      lia
    · rw [if_neg c, if_neg c, if_neg c, if_neg c]
      simp only [Int.add_zero]
theorem S_nonneg {N : Nat} {par : Nat → Nat} {v : Nat} {f : Nat → Int} (h : ∀ w, 1 ≤ w → w < N → par w = v → 0 ≤ f w) : 0 ≤ S N par v f := by
  have := S_le (N := N) (par := par) (v := v) (f := fun _ => 0) (g := f) h
  have e : S N par v (fun _ => 0) = 0 := sm_zero fun i _ => by split <;> rfl
  lia
noncomputable def solF (N : Nat) (par : Nat → Nat) (g c : Nat → Int) : Nat → Nat → Int
  | 0, _ => 0
  | f + 1, v => g v + S N par v (fun w => c w * solF N par g c f w)
theorem solF_stab {N : Nat} {par : Nat → Nat} {g c : Nat → Int} (hp : ∀ k, 1 ≤ k → k < N → par k < k) : ∀ (f f' v : Nat), N ≤ f + v → N ≤ f' + v → v < N → solF N par g c f v = solF N par g c f' v
  | 0, _, v, h, _, hv => by lia
  | _ + 1, 0, v, _, h, hv => by lia
  | f + 1, f' + 1, v, h, h', hv => by
    unfold solF
    congr 1
    refine S_congr fun w w1 wN e => ?_
    have := hp w w1 wN
    rw [solF_stab hp f f' w (by lia) (by lia) wN]
/-- the equation of a tree has an answer -/
theorem sol {N : Nat} {par : Nat → Nat} (g c : Nat → Int) (hp : ∀ k, 1 ≤ k → k < N → par k < k) : ∃ r : Nat → Int, ∀ v, v < N → r v = g v + S N par v (fun w => c w * r w) := by
  refine ⟨solF N par g c N, fun v hv => ?_⟩
  obtain ⟨M, rfl⟩ : ∃ M, N = M + 1 := ⟨N - 1, by lia⟩
  rw [show solF (M + 1) par g c (M + 1) v = g v + S (M + 1) par v (fun w => c w * solF (M + 1) par g c M w) from rfl]
  congr 1
  refine S_congr fun w w1 wN e => ?_
  rw [solF_stab hp M (M + 1) w (by lia) (by lia) wN]
theorem down {N : Nat} {P : Nat → Prop} (h : ∀ v, v < N → (∀ w, v < w → w < N → P w) → P v) : ∀ v, v < N → P v := by
  have : ∀ n v, N ≤ n + v → v < N → P v := by
    intro n
    induction n with
    | zero => intro v a b; lia
    | succ n ih => exact fun v a b => h v b fun w c d => ih w (by lia) d
  exact fun v hv => this N v (by lia) hv
theorem sol_nonneg {N : Nat} {par : Nat → Nat} {g c r : Nat → Int} (hp : ∀ k, 1 ≤ k → k < N → par k < k) (hr : ∀ v, v < N → r v = g v + S N par v (fun w => c w * r w)) (hg : ∀ v, v < N → 0 ≤ g v) (hc : ∀ v, v < N → 0 ≤ c v) : ∀ v, v < N → 0 ≤ r v :=
  down fun v hv ih => by
    rw [hr v hv]
    have := S_nonneg (N := N) (par := par) (v := v) (f := fun w => c w * r w) fun w w1 wN e => Int.mul_nonneg (hc w wN) (ih w (by have := hp w w1 wN; lia) wN)
    have := hg v hv
    lia
theorem sol_uniq {N : Nat} {par : Nat → Nat} {g c r r' : Nat → Int} (hp : ∀ k, 1 ≤ k → k < N → par k < k) (hr : ∀ v, v < N → r v = g v + S N par v (fun w => c w * r w)) (hr' : ∀ v, v < N → r' v = g v + S N par v (fun w => c w * r' w)) : ∀ v, v < N → r v = r' v :=
  down fun v hv ih => by
    rw [hr v hv, hr' v hv]
    congr 1
    exact S_congr fun w w1 wN e => by rw [ih w (by have := hp w w1 wN; lia) wN]
/-- what is laid on the cuts -/
theorem km_child {r rs c cs d ds th : Int} (hc : c = 0 ∨ c = 1) (hcs : cs = 0 ∨ cs = 1) (h1 : ds ≤ d) (h2 : ds = d → rs ≤ r) (hr : 0 ≤ r) (ht : 0 ≤ th) (t1 : cs = 1 → th ≤ rs) (t0 : cs = 0 → rs ≤ th) :
    (1 - cs) * rs - th * ((c + d) - (cs + ds)) ≤ (1 - c) * r := by
  obtain ⟨e, he⟩ : ∃ e, e = d - ds := ⟨_, rfl⟩
  have e0 : 0 ≤ e := by lia
  have m0 : 0 ≤ th * e := Int.mul_nonneg ht e0
  have m1 : 1 ≤ e → th ≤ th * e := fun h => by
    have := Int.mul_nonneg ht (show 0 ≤ e - 1 by lia)
    rw [Int.mul_sub] at this
    lia
  rcases hc with rfl | rfl <;> rcases hcs with rfl | rfl
  · have := t0 rfl
    rw [show (0 + d) - (0 + ds) = e by lia]
    by_cases z : 1 ≤ e
    · have := m1 z; lia
    · have := h2 (by lia); lia
  · have := t1 rfl
    rw [show (0 + d) - (1 + ds) = e - 1 by lia, Int.mul_sub]
    by_cases z : 1 ≤ e
    · have := m1 z; lia
    · have := h2 (by lia); lia
  · have := t0 rfl
    rw [show (1 + d) - (0 + ds) = e + 1 by lia, Int.mul_add]
    lia
  · rw [show (1 + d) - (1 + ds) = e by lia]
    lia
/-- Kundu and Misra: no choice of cuts has fewer, and none of so few leaves less -/
theorem km {N : Nat} {par : Nat → Nat} {ld c cs r rs d ds : Nat → Int} {room : Int} (hp : ∀ k, 1 ≤ k → k < N → par k < k) (hl : ∀ v, v < N → 0 ≤ ld v)
    (hc : ∀ v, v < N → c v = 0 ∨ c v = 1) (hcs : ∀ v, v < N → cs v = 0 ∨ cs v = 1)
    (hr : ∀ v, v < N → r v = ld v + S N par v (fun w => (1 - c w) * r w)) (hrs : ∀ v, v < N → rs v = ld v + S N par v (fun w => (1 - cs w) * rs w))
    (hd : ∀ v, v < N → d v = S N par v (fun w => c w + d w)) (hds : ∀ v, v < N → ds v = S N par v (fun w => cs w + ds w))
    (feas : ∀ v, v < N → r v ≤ room)
    (th : ∀ v, v < N → ∃ t : Int, 0 ≤ t ∧ (∀ w, 1 ≤ w → w < N → par w = v → (cs w = 1 → t ≤ rs w) ∧ (cs w = 0 → rs w ≤ t)) ∧ room < rs v + t) :
    ∀ v, v < N → ds v ≤ d v ∧ (ds v = d v → rs v ≤ r v) := by
  have hn := sol_nonneg hp hr hl (fun v hv => by rcases hc v hv with e | e <;> rw [e] <;> decide)
  refine down fun v hv ih => ?_
  obtain ⟨t, t0, ht, htr⟩ := th v hv
  have key := S_le (N := N) (par := par) (v := v) (f := fun w => (1 - cs w) * rs w - t * ((c w + d w) - (cs w + ds w))) (g := fun w => (1 - c w) * r w) fun w w1 wN e =>
    km_child (hc w wN) (hcs w wN) (ih w (by have := hp w w1 wN; lia) wN).1 (ih w (by have := hp w w1 wN; lia) wN).2 (hn w wN) t0 (ht w w1 wN e).1 (ht w w1 wN e).2
  rw [S_lin (a := fun w => (1 - cs w) * rs w) (b := fun w => c w + d w) (e := fun w => cs w + ds w), ← hd v hv, ← hds v hv] at key
  have h1 := hr v hv
  have h2 := hrs v hv
  have h3 := feas v hv
  have g1 : ds v ≤ d v := by
    rcases Int.lt_or_le (d v) (ds v) with h | h
    · exfalso
      have := Int.mul_nonneg t0 (show 0 ≤ ds v - d v - 1 by lia)
      have e : t * (ds v - d v - 1) = - (t * (d v - ds v)) - t := by
        simp only [Int.mul_sub]; lia
      lia
    · exact h
  refine ⟨g1, fun e => ?_⟩
  rw [e, Int.sub_self, Int.mul_zero] at key
  lia
theorem swap {N : Nat} {par : Nat → Nat} {g f : Nat → Int} (hp : ∀ k, 1 ≤ k → k < N → par k < k) : sm N (fun v => g v * S N par v f) = sm N (fun w => if 1 ≤ w then g (par w) * f w else 0) := by
  have : ∀ M, M ≤ N → sm N (fun v => g v * sm M (fun w => if 1 ≤ w ∧ par w = v then f w else 0)) = sm M (fun w => if 1 ≤ w then g (par w) * f w else 0) := by
    intro M
    induction M with
    | zero => exact fun _ => sm_zero fun i _ => by simp [sm]
    | succ M ih =>
      intro hM
      simp only [sm]
      rw [← ih (by lia)]
      by_cases h : 1 ≤ M
      · rw [if_pos h, ← sm_one (f := fun v => g v * f M) (a := par M) (n := N) (by have := hp M h (by lia); lia), ← sm_add]
        refine sm_congr fun v hv => ?_
        rw [Int.mul_add]
        congr 1
        by_cases e : par M = v
        · rw [if_pos ⟨h, e⟩, if_pos e.symm]
        · rw [if_neg (fun x => e x.2), if_neg (fun x => e x.symm), Int.mul_zero]
      · rw [if_neg h, Int.add_zero]
        refine sm_congr fun v hv => ?_
        rw [if_neg (fun x => h x.1), Int.add_zero]
  exact this N (Nat.le_refl _)
/-- the cuts below the top are all cuts -/
theorem total {N : Nat} {par : Nat → Nat} {c d : Nat → Int} (hN : 0 < N) (hp : ∀ k, 1 ≤ k → k < N → par k < k) (hd : ∀ v, v < N → d v = S N par v (fun w => c w + d w)) : d 0 = sm N (fun w => if 1 ≤ w then c w else 0) := by
  have h := swap (g := fun _ => 1) (f := fun w => c w + d w) hp
  rw [sm_congr (g := d) fun v hv => by rw [Int.one_mul, ← hd v hv]] at h
  rw [sm_congr (f := fun w => if 1 ≤ w then 1 * (c w + d w) else 0) (g := fun w => (if 1 ≤ w then c w else 0) + (if 1 ≤ w then d w else 0)) fun w _ => by
    by_cases e : 1 ≤ w
    · simp only [if_pos e]; lia
    · simp only [if_neg e]; rfl] at h
  rw [sm_add, sm_first (f := d) hN] at h
  lia
/-- what a part weighs -/
theorem heads {N : Nat} {par h : Nat → Nat} {ld c r : Nat → Int} (hp : ∀ k, 1 ≤ k → k < N → par k < k)
    (hc : ∀ v, v < N → c v = 0 ∨ c v = 1) (hr : ∀ v, v < N → r v = ld v + S N par v (fun w => (1 - c w) * r w))
    (hh : ∀ v, v < N → h v = if v ≠ 0 ∧ c v = 0 then h (par v) else v) {t : Nat} (ht : t < N) (htc : t = 0 ∨ c t = 1) :
    sm N (fun v => if h v = t then ld v else 0) = r t := by
  have h1 := swap (g := fun v => if h v = t then 1 else 0) (f := fun w => (1 - c w) * r w) hp
  have h2 : sm N (fun v => if h v = t then r v else 0) = sm N (fun v => if h v = t then ld v else 0) + sm N (fun v => (if h v = t then 1 else 0) * S N par v (fun w => (1 - c w) * r w)) := by
    rw [← sm_add]
    refine sm_congr fun v hv => ?_
    by_cases e : h v = t
    · rw [if_pos e, if_pos e, if_pos e, Int.one_mul]; exact hr v hv
    · rw [if_neg e, if_neg e, if_neg e, Int.zero_mul]; rfl
  have h3 : sm N (fun v => if h v = t then r v else 0) = sm N (fun v => if v = t then r v else 0) + sm N (fun w => if 1 ≤ w then (if h (par w) = t then 1 else 0) * ((1 - c w) * r w) else 0) := by
    rw [← sm_add]
    refine sm_congr fun v hv => ?_
    have hhv := hh v hv
    rcases Nat.eq_zero_or_pos v with rfl | v1
    · rw [if_neg (fun e => e.1 rfl)] at hhv
      rw [hhv, if_neg (show ¬ 1 ≤ 0 by decide), Int.add_zero]
    · rw [if_pos (show 1 ≤ v from v1)]
      rcases hc v hv with e | e
      · rw [if_pos ⟨by lia, e⟩] at hhv
        rw [e, ← hhv, if_neg (show ¬ v = t by rintro rfl; lia)]
        split <;> lia
      · rw [if_neg (fun x => by have := x.2; lia)] at hhv
        rw [hhv, e]
        simp
  rw [sm_one ht] at h3
  lia
end Mine
end
section
open PySem PySem.W PyProof.Rows PySem.Calls PySem.Spec
set_option maxRecDepth 100000
namespace Mine
/-- the last sign of a path -/
noncomputable def lastN (x : Str) : Nat := x.cps.toList.getLastD 0
noncomputable def plNext (k : Nat) (p : Str) : Bool := (dirS (joinS p (letterS (k + 1))) == p) && (lastN (joinS p (letterS (k + 1))) == 97 + k)
theorem pl_next : (List.range 7).all (fun k => (pl k).all (plNext k)) = true := by decide +kernel
theorem next_facts {k : Nat} {p : Str} (hk : k < 7) (hp : p ∈ pl k) : dirS (joinS p (letterS (k + 1))) = p ∧ lastN (joinS p (letterS (k + 1))) = 97 + k := by
  have := List.all_eq_true.mp (List.all_eq_true.mp pl_next k (List.mem_range.mpr hk)) p hp
  unfold plNext at this
  simpa only [Bool.and_eq_true, beq_iff_eq] using this
theorem root_dir : dirS (Str.ofString "/") = Str.ofString "/" := by decide +kernel
theorem root_last : lastN (Str.ofString "/") = 47 := by decide +kernel
noncomputable def parF (ov : List Int) (k : Nat) : Nat := (ov.getD k 0).toNat
noncomputable def plc (ov : List Int) (k : Nat) : Str := (placesF ov).getD k ⟨#[]⟩
section
variable {ov : List Int}
theorem par_lt (h : OverOk ov) : ∀ k, 1 ≤ k → k < ov.length → parF ov k < k := fun k h1 h2 => by
  have := h.2.2 k h1 h2
  unfold parF
  lia
theorem placesN_stab (h : OverOk ov) {k : Nat} : ∀ {n : Nat}, k ≤ n → n + 1 ≤ ov.length → (placesN ov n).getD k ⟨#[]⟩ = (placesN ov k).getD k ⟨#[]⟩
  | 0, hk, _ => by
    have : k = 0 := by lia
    subst this; rfl
  | n + 1, hk, hn => by
    by_cases e : k = n + 1
    · subst e; rfl
    · rw [placesN_succ]
      unfold placesStep
      have hl := (placesN_pl (over := ov) n h.2.2 (by lia)).1
      rw [List.getD_eq_getElem?_getD, List.getElem?_append_left (by lia), ← List.getD_eq_getElem?_getD]
      exact placesN_stab h (by lia) (by lia)
theorem plc_at (h : OverOk ov) {k n : Nat} (hk : k ≤ n) (hn : n + 1 ≤ ov.length) : (placesN ov n).getD k ⟨#[]⟩ = plc ov k := by
  have := h.1
  unfold plc placesF
  rw [placesN_stab h hk hn, placesN_stab h (n := ov.length - 1) (by lia) (by lia)]
theorem plc_zero (h : OverOk ov) : plc ov 0 = Str.ofString "/" := by
  have := h.1
  rw [← plc_at h (k := 0) (n := 0) (by lia) (by lia)]
  rfl
theorem plc_succ (h : OverOk ov) {k : Nat} (hk : k + 1 < ov.length) : plc ov (k + 1) = joinS (plc ov (parF ov (k + 1))) (letterS (k + 1)) := by
  have hl := (placesN_pl (over := ov) k h.2.2 (by lia)).1
  have hp := par_lt h (k + 1) (by lia) hk
  rw [← plc_at h (k := k + 1) (n := k + 1) (by lia) (by lia), ← plc_at h (k := parF ov (k + 1)) (n := k) (by lia) (by lia), placesN_succ]
  unfold placesStep
  rw [List.getD_eq_getElem?_getD, List.getElem?_append_right (by lia), hl, Nat.sub_self]
  rfl
theorem plc_pl (h : OverOk ov) {k n : Nat} (hk : k ≤ n) (hn : n < ov.length) : plc ov k ∈ pl n := by
  obtain ⟨h1, h2⟩ := placesN_pl (over := ov) n h.2.2 (by lia)
  rw [← plc_at h hk (by lia)]
  refine h2 _ ?_
  rw [List.getD_eq_getElem?_getD, List.getElem?_eq_getElem (by lia)]
  exact List.getElem_mem _
theorem plc_7 (h : OverOk ov) {k : Nat} (hk : k < ov.length) : plc ov k ∈ pl 7 :=
  pl_mono (m := k) (by have := h.2.1; lia) _ (plc_pl h (Nat.le_refl _) hk)
theorem plc_last (h : OverOk ov) {k : Nat} (hk : k + 1 < ov.length) : lastN (plc ov (k + 1)) = 97 + k ∧ dirS (plc ov (k + 1)) = plc ov (parF ov (k + 1)) := by
  have hp := par_lt h (k + 1) (by lia) hk
  have hm : plc ov (parF ov (k + 1)) ∈ pl k := plc_pl h (by lia) (by lia)
  obtain ⟨a, b⟩ := next_facts (by have := h.2.1; lia) hm
  rw [plc_succ h hk]
  exact ⟨b, a⟩
theorem plc_inj (h : OverOk ov) {i j : Nat} (hi : i < ov.length) (hj : j < ov.length) (e : plc ov i = plc ov j) : i = j := by
  have e' := congrArg lastN e
  rcases i with _ | i <;> rcases j with _ | j
  · rfl
  · rw [plc_zero h, (plc_last h hj).1, root_last] at e'; lia
  · rw [plc_zero h, (plc_last h hi).1, root_last] at e'; lia
  · rw [(plc_last h hi).1, (plc_last h hj).1] at e'; lia
theorem plc_dir (h : OverOk ov) (h0 : ov.getD 0 0 = 0) {k : Nat} (hk : k < ov.length) : dirS (plc ov k) = plc ov (parF ov k) := by
  rcases k with _ | k
  · rw [show parF ov 0 = 0 by unfold parF; rw [h0]; rfl, plc_zero h, root_dir]
  · exact (plc_last h hk).2
theorem placesF_len (h : OverOk ov) : (placesF ov).length = ov.length := by
  have := h.1
  unfold placesF
  rw [(placesN_pl (over := ov) _ h.2.2 (by lia)).1]
  lia
theorem placesF_map (h : OverOk ov) : placesF ov = (List.range ov.length).map (plc ov) := by
  refine List.ext_getElem (by rw [placesF_len h]; simp) fun i h1 h2 => ?_
  rw [List.getElem_map, List.getElem_range]
  unfold plc
  rw [List.getD_eq_getElem?_getD, List.getElem?_eq_getElem h1]
  rfl
theorem nodup_map_on {α β : Type} {f : α → β} : ∀ {l : List α}, l.Nodup → (∀ a ∈ l, ∀ b ∈ l, f a = f b → a = b) → (l.map f).Nodup
  | [], _, _ => List.nodup_nil
  | x :: l, h, hf => by
    rw [List.nodup_cons] at h
    rw [List.map_cons, List.nodup_cons]
    refine ⟨fun hm => ?_, nodup_map_on h.2 fun a ha b hb => hf a (.tail _ ha) b (.tail _ hb)⟩
    obtain ⟨y, hy, e⟩ := List.mem_map.mp hm
    have := hf y (.tail _ hy) x (.head _) e
    subst this
    exact h.1 hy
theorem placesF_nodup (h : OverOk ov) : (placesF ov).Nodup := by
  rw [placesF_map h]
  exact nodup_map_on List.nodup_range fun a ha b hb e => plc_inj h (List.mem_range.mp ha) (List.mem_range.mp hb) e
end
end Mine
end
section
open PySem PySem.W PyProof.Rows PySem.Calls PySem.Spec
set_option maxRecDepth 100000
namespace Mine
theorem wsumG_cons {q : Pr} {a : List Pr} : wsum (q :: a) = q.1 + wsum a := by simp [wsum]
theorem wsum_app {a b : List Pr} : wsum (a ++ b) = wsum a + wsum b := by simp [wsum]
theorem wsum_nil : wsum [] = 0 := rfl
/-- a first part is cut off -/
theorem cutW_spec {place : Str} {room : Int} : ∀ (qs : List Pr) (load : Int) (cuts : List Kv), ∃ a b, qs = a ++ b ∧ cutW place room qs load cuts = (load + wsum a, a.foldl (fun c q => setK (Txt.upper q.2) place c) cuts) ∧ (b = [] ∨ load + wsum a ≤ room) ∧ (∀ a' q, a = a' ++ [q] → room < load + wsum a')
  | [], load, cuts => ⟨[], [], rfl, by simp [cutW, wsum], .inl rfl, fun a' q h => by simp at h⟩
  | q :: r, load, cuts => by
    by_cases h : room < load
    · obtain ⟨a, b, h1, h2, h3, h4⟩ := cutW_spec (place := place) (room := room) r (load + q.1) (setK (Txt.upper q.2) place cuts)
      refine ⟨q :: a, b, by rw [h1]; rfl, ?_, ?_, ?_⟩
      · rw [cutW_pos h, h2, wsumG_cons, ← Int.add_assoc]; rfl
      · rw [wsumG_cons, ← Int.add_assoc]; exact h3
      · intro a' q' e
        cases a' with
        | nil => rw [wsum_nil, Int.add_zero]; exact h
        | cons x a' =>
          rw [List.cons_append] at e
          have := h4 a' q' (List.cons.inj e).2
          rw [wsumG_cons, ← Int.add_assoc, ← (List.cons.inj e).1]; exact this
    · exact ⟨[], q :: r, rfl, by rw [cutW_neg h, wsum_nil, Int.add_zero]; rfl, .inr (by rw [wsum_nil]; lia), fun a' q e => by simp at e⟩
theorem perm_of_map {α β : Type} {f : α → β} {l l2 : List β} (h : l.Perm l2) : ∀ m : List α, l2 = m.map f → ∃ m' : List α, m'.Perm m ∧ l = m'.map f := by
  induction h with
  | nil => exact fun m e => ⟨m, List.Perm.refl _, e⟩
  | cons x _ ih =>
    intro m e
    cases m with
    | nil => cases e
    | cons y m =>
      rw [List.map_cons] at e
      obtain ⟨m', h1, h2⟩ := ih m (List.cons.inj e).2
      exact ⟨y :: m', h1.cons y, by rw [h2, (List.cons.inj e).1]; rfl⟩
  | swap x y l =>
    intro m e
    match m, e with
    | a :: b :: m, e =>
      rw [List.map_cons, List.map_cons] at e
      have e2 := List.cons.inj (List.cons.inj e).2
      exact ⟨b :: a :: m, List.Perm.swap a b m, by rw [(List.cons.inj e).1, e2.1, e2.2]; rfl⟩
  | trans _ _ ih1 ih2 =>
    intro m e
    obtain ⟨m2, h1, h2⟩ := ih2 m e
    obtain ⟨m3, h3, h4⟩ := ih1 m2 h2
    exact ⟨m3, h3.trans h1, h4⟩
theorem sum_perm {l l2 : List Int} (h : l.Perm l2) : l.sum = l2.sum := by
  induction h with
  | nil => rfl
  | cons x _ ih => rw [List.sum_cons, List.sum_cons, ih]
  | swap x y l => simp only [List.sum_cons]; lia
  | trans _ _ h1 h2 => exact h1.trans h2
theorem perm_of_mem {α : Type} : ∀ {l l2 : List α}, l.Nodup → l2.Nodup → (∀ a, a ∈ l ↔ a ∈ l2) → l.Perm l2
  | [], l2, _, _, h => by
    cases l2 with
    | nil => exact List.Perm.refl _
    | cons x r => exact absurd ((h x).mpr (.head _)) (List.not_mem_nil)
  | x :: l, l2, h1, h2, h => by
    obtain ⟨a, b, rfl⟩ := List.append_of_mem ((h x).mp (.head _))
    rw [List.nodup_cons] at h1
    have hp : (a ++ x :: b).Perm (x :: (a ++ b)) := List.perm_middle
    have h3 := hp.nodup_iff.mp h2
    rw [List.nodup_cons] at h3
    refine ((perm_of_mem h1.2 h3.2 fun y => ?_).cons x).trans hp.symm
    have := h y
    rw [hp.mem_iff, List.mem_cons, List.mem_cons] at this
    constructor
    · intro hy
      rcases this.mp (.inr hy) with rfl | h'
      · exact absurd hy h1.1
      · exact h'
    · intro hy
      rcases this.mpr (.inr hy) with rfl | h'
      · exact absurd hy h3.1
      · exact h'
theorem sm_filter {p : Nat → Prop} [DecidablePred p] {f : Nat → Int} : ∀ {n : Nat}, sm n (fun w => if p w then f w else 0) = (((List.range n).filter fun w => decide (p w)).map f).sum
  | 0 => rfl
  | n + 1 => by
    simp only [sm]
    rw [sm_filter (n := n), List.range_succ, List.filter_append, List.map_append, List.sum_append]
    congr 1
    by_cases h : p n
    · rw [if_pos h]; simp [h]
    · rw [if_neg h]; simp [h]
theorem S_list {N : Nat} {par : Nat → Nat} {v : Nat} {f : Nat → Int} {l : List Nat} (hl : l.Nodup) (h : ∀ w, w ∈ l ↔ w < N ∧ 1 ≤ w ∧ par w = v) : S N par v f = (l.map f).sum := by
  unfold S
  rw [sm_filter]
  refine sum_perm (List.Perm.map _ (perm_of_mem (List.Nodup.sublist List.filter_sublist List.nodup_range) hl fun w => ?_))
  rw [List.mem_filter, List.mem_range, h w, decide_eq_true_iff]
noncomputable def keyI (ov : List Int) (r : Nat → Int) (i : Nat) : Pr := (-(r i), plc ov i)
noncomputable def cutI (ov : List Int) (i : Nat) : Kv := (Txt.upper (plc ov i), plc ov (parF ov i))
noncomputable def ind (cs : List Nat) (w : Nat) : Int := if w ∈ cs then 1 else 0
theorem wsum_key {ov : List Int} {r : Nat → Int} : ∀ (l : List Nat), wsum (l.map (keyI ov r)) = -((l.map r).sum)
  | [] => rfl
  | i :: l => by
    rw [List.map_cons, wsumG_cons, wsum_key l, List.map_cons, List.sum_cons]
    simp only [keyI]
    lia
section
variable {ov : List Int} {lds : Nat → Int} {room : Int} {ld : Str → Int}
/-- what holds of a place that has been seen -/
noncomputable def Res (ov : List Int) (lds : Nat → Int) (room : Int) (r : Nat → Int) (cs : List Nat) (i : Nat) : Prop :=
  0 ≤ r i ∧ r i ≤ room ∧ r i = lds i + S ov.length (parF ov) i (fun w => (1 - ind cs w) * r w) ∧
  ∃ t : Int, 0 ≤ t ∧ (∀ w, 1 ≤ w → w < ov.length → parF ov w = i → (w ∈ cs → t ≤ r w) ∧ (w ∉ cs → r w ≤ t)) ∧ room < r i + t
structure GInv (ov : List Int) (lds : Nat → Int) (room : Int) (done : List Nat) (st : St) (r : Nat → Int) (cs : List Nat) : Prop where
  hang : st.hang = done.map fun i => (plc ov (parF ov i), rowS (r i) (plc ov i))
  cuts : st.cuts = cs.map (cutI ov)
  nod : cs.Nodup
  mem : ∀ i ∈ cs, 1 ≤ i ∧ i < ov.length ∧ parF ov i ∈ done
  res : ∀ i ∈ done, Res ov lds room r cs i
  last : ∀ i d', done = d' ++ [i] → st.load = r i
theorem fold_cuts (h : OverOk ov) {j : Nat} {r : Nat → Int} : ∀ (ai cs : List Nat), (cs ++ ai).Nodup → (∀ i ∈ cs ++ ai, i < ov.length) → (∀ i ∈ ai, parF ov i = j) →
    (ai.map (keyI ov r)).foldl (fun c q => setK (Txt.upper q.2) (plc ov j) c) (cs.map (cutI ov)) = (cs ++ ai).map (cutI ov)
  | [], cs, _, _, _ => by rw [List.append_nil]; rfl
  | i :: ai, cs, h1, h2, h3 => by
    have e : setK (Txt.upper (keyI ov r i).2) (plc ov j) (cs.map (cutI ov)) = (cs ++ [i]).map (cutI ov) := by
      unfold setK
      rw [List.map_append]
      congr 1
      · refine List.filter_eq_self.mpr fun q hq => ?_
        obtain ⟨k, hk, rfl⟩ := List.mem_map.mp hq
        have hkN := h2 k (List.mem_append.mpr (.inl hk))
        have hiN := h2 i (List.mem_append.mpr (.inr (.head _)))
        show (Txt.lower (Txt.upper (plc ov k)) != Txt.lower (Txt.upper (plc ov i))) = true
        rw [upper_pl (plc_7 h hkN), upper_pl (plc_7 h hiN), bne_iff_ne]
        intro e
        have := plc_inj h hkN hiN e
        subst this
        exact (List.nodup_append.mp h1).2.2 k hk k (.head _) rfl
      · show [_] = [_]
        rw [← h3 i (.head _)]
        rfl
    rw [List.map_cons, List.foldl_cons, e]
    have a : (cs ++ [i]) ++ ai = cs ++ i :: ai := by simp
    have := fold_cuts h (r := r) ai (cs ++ [i]) (by rw [a]; exact h1) (by rw [a]; exact h2) (fun k hk => h3 k (.tail _ hk))
    rw [a] at this
    exact this
theorem rows_at (h : OverOk ov) {done : List Nat} {r : Nat → Int} {j : Nat} {st : St} (hd : ∀ i ∈ done, i < ov.length) (hp0 : ∀ i, i < ov.length → parF ov i < ov.length) (hj : j < ov.length) (hh : st.hang = done.map fun i => (plc ov (parF ov i), rowS (r i) (plc ov i))) :
    rowsOf st (plc ov j) = (done.filter fun i => decide (parF ov i = j)).map fun i => rowS (r i) (plc ov i) := by
  unfold rowsOf getAllK
  rw [hh, List.filter_map, List.map_map]
  congr 1
  refine List.filter_congr fun i hi => ?_
  have hi' := hd i hi
  have hpi := hp0 i hi'
  show decide (Txt.lower (plc ov (parF ov i)) = Txt.lower (Txt.upper (plc ov j))) = _
  rw [upper_pl (plc_7 h hj), (pl_facts (plc_7 h hpi)).2.2.2.2.1]
  refine decide_eq_decide.mpr ⟨fun e => plc_inj h hpi hj e, fun e => by rw [e]⟩
theorem sum_nonneg {l : List Nat} {r : Nat → Int} (h : ∀ i ∈ l, 0 ≤ r i) : 0 ≤ (l.map r).sum := by
  induction l with
  | nil => exact Int.le_refl _
  | cons x l ih =>
    rw [List.map_cons, List.sum_cons]
    have := ih fun i hi => h i (.tail _ hi)
    have := h x (.head _)
    lia
theorem step (h : OverOk ov) (hpp : ∀ i, i < ov.length → parF ov i < ov.length) (hdr : ∀ k, k < ov.length → dirS (plc ov k) = plc ov (parF ov k)) (hld : ∀ k, k < ov.length → ld (plc ov k) = lds k) (hb : ∀ k, k < ov.length → 0 ≤ lds k ∧ lds k ≤ room) (hr8 : room ≤ 8)
    {done : List Nat} {st : St} {r : Nat → Int} {cs : List Nat} {j : Nat} (I : GInv ov lds room done st r cs) (hd : ∀ i ∈ done, i < ov.length) (hdn : done.Nodup) (hj : j < ov.length) (hjd : j ∉ done) (hz : parF ov 0 = 0)
    (hch : ∀ w, 1 ≤ w → w < ov.length → parF ov w = j → w ∈ done) (hup : ∀ i ∈ done, 1 ≤ j → parF ov j ≠ i) :
    ∃ r' cs', GInv ov lds room (done ++ [j]) (turnP ld room st (plc ov j)) r' cs' := by
  have hrows := rows_at h (st := st) hd hpp hj I.hang
  obtain ⟨ch, hchd⟩ : ∃ ch, ch = done.filter fun i => decide (parF ov i = j) := ⟨_, rfl⟩
  have hcm : ∀ w, w ∈ ch ↔ w < ov.length ∧ 1 ≤ w ∧ parF ov w = j := fun w => by
    rw [hchd, List.mem_filter, decide_eq_true_iff]
    constructor
    · rintro ⟨a, b⟩
      refine ⟨hd w a, ?_, b⟩
      rcases Nat.eq_zero_or_pos w with rfl | h1
      · rw [hz] at b; subst b; exact absurd a hjd
      · exact h1
    · rintro ⟨a, b, c⟩
      exact ⟨hch w b a c, c⟩
  have hcd : ∀ w ∈ ch, w ∈ done := fun w hw => by rw [hchd] at hw; exact (List.mem_filter.mp hw).1
  have hcn : ch.Nodup := by rw [hchd]; exact List.Nodup.sublist List.filter_sublist hdn
  have hkeys : (rowsOf st (plc ov j)).map rowKey = ch.map (keyI ov r) := by
    rw [hrows, ← hchd, List.map_map]
    refine List.map_congr_left fun i hi => ?_
    obtain ⟨a, b, _⟩ := I.res i (hcd i hi)
    exact rowKey_ok a (by lia) (plc_7 h (hd i (hcd i hi)))
  obtain ⟨l', hl', el⟩ := perm_of_map (sortP_perm (ch.map (keyI ov r))) ch rfl
  have hsorted := sortP_sorted (ch.map (keyI ov r))
  rw [el] at hsorted
  obtain ⟨a, b, h1, h2, h3, h4⟩ := cutW_spec (place := plc ov j) (room := room) (l'.map (keyI ov r)) (loadOf (rowsOf st (plc ov j)) (ld (plc ov j))) st.cuts
  obtain ⟨ai, bi, e1, rfl, rfl⟩ := List.map_eq_append_iff.mp h1
  subst e1
  have hco : cutOf ld room st (plc ov j) = cutW (plc ov j) room ((ai ++ bi).map (keyI ov r)) (loadOf (rowsOf st (plc ov j)) (ld (plc ov j))) st.cuts := by
    unfold cutOf
    rw [hkeys, el]
  rw [h2] at hco
  rw [loadOf_wsum, hkeys, wsum_perm ((hl'.map (keyI ov r)).symm), List.map_append, wsum_app, hld j hj] at hco h3 h4
  obtain ⟨x, hx⟩ : ∃ x, x = lds j - (wsum (ai.map (keyI ov r)) + wsum (bi.map (keyI ov r))) + wsum (ai.map (keyI ov r)) := ⟨_, rfl⟩
  rw [← hx] at hco h3
  have hxb : x = lds j + (bi.map r).sum := by
    rw [wsum_key bi] at hx
    lia
  have hlm : ∀ w, w ∈ ai ++ bi ↔ w ∈ ch := fun w => hl'.mem_iff
  have hln : (ai ++ bi).Nodup := hl'.nodup_iff.mpr hcn
  have hpj : ∀ i ∈ ai ++ bi, parF ov i = j := fun i hi => ((hcm i).mp ((hlm i).mp hi)).2.2
  have hlN : ∀ i ∈ ai ++ bi, i < ov.length := fun i hi => ((hcm i).mp ((hlm i).mp hi)).1
  have hl1 : ∀ i ∈ ai ++ bi, 1 ≤ i := fun i hi => ((hcm i).mp ((hlm i).mp hi)).2.1
  have hld' : ∀ i ∈ ai ++ bi, i ∈ done := fun i hi => hcd i ((hlm i).mp hi)
  have hcsj : ∀ i ∈ cs, parF ov i ≠ j := fun i hi e => hjd (e ▸ (I.mem i hi).2.2)
  have hnod : (cs ++ ai).Nodup := List.nodup_append.mpr ⟨I.nod, (List.nodup_append.mp hln).1, fun y hy z hz e => hcsj y hy (by rw [e]; exact hpj z (List.mem_append.mpr (.inl hz)))⟩
  have hcuts := fold_cuts h (j := j) (r := r) ai cs hnod (fun i hi => by
    rcases List.mem_append.mp hi with hi | hi
    · exact (I.mem i hi).2.1
    · exact hlN i (List.mem_append.mpr (.inl hi))) (fun i hi => hpj i (List.mem_append.mpr (.inl hi)))
  rw [I.cuts, hcuts] at hco
  have hr0 : ∀ i ∈ ai ++ bi, 0 ≤ r i ∧ r i ≤ room := fun i hi => ⟨(I.res i (hld' i hi)).1, (I.res i (hld' i hi)).2.1⟩
  have hx0 : 0 ≤ x := by
    have := sum_nonneg (l := bi) (r := r) fun i hi => (hr0 i (List.mem_append.mpr (.inr hi))).1
    have := (hb j hj).1
    lia
  have hxr : x ≤ room := by
    rcases h3 with h3 | h3
    · have : bi = [] := List.map_eq_nil_iff.mp h3
      rw [hxb, this]
      have := (hb j hj).2
      simp
      lia
    · exact h3
  obtain ⟨r', hr'⟩ : ∃ r' : Nat → Int, r' = fun i => if i = j then x else r i := ⟨_, rfl⟩
  have hrj : r' j = x := by rw [hr']; exact if_pos rfl
  have hrn : ∀ i, i ≠ j → r' i = r i := fun i hi => by rw [hr']; exact if_neg hi
  have hrd : ∀ i ∈ done, r' i = r i := fun i hi => hrn i fun e => hjd (e ▸ hi)
  refine ⟨r', cs ++ ai, ⟨?_, ?_, hnod, ?_, ?_, ?_⟩⟩
  · show st.hang ++ [(dirS (plc ov j), rowS (cutOf ld room st (plc ov j)).1 (plc ov j))] = _
    rw [hco, I.hang, List.map_append (l₁ := done), hdr j hj]
    rw [List.map_congr_left (l := done) (f := fun i => (plc ov (parF ov i), rowS (r i) (plc ov i))) (g := fun i => (plc ov (parF ov i), rowS (r' i) (plc ov i))) fun i hi => by rw [hrd i hi]]
    rw [List.map_singleton, hrj]
  · show (cutOf ld room st (plc ov j)).2 = _
    rw [hco]
  · intro i hi
    rcases List.mem_append.mp hi with hi | hi
    · obtain ⟨a, b, c⟩ := I.mem i hi
      exact ⟨a, b, List.mem_append.mpr (.inl c)⟩
    · have hm : i ∈ ai ++ bi := List.mem_append.mpr (.inl hi)
      exact ⟨hl1 i hm, hlN i hm, List.mem_append.mpr (.inr (by rw [hpj i hm]; exact .head _))⟩
  · intro i hi
    rcases List.mem_append.mp hi with hi | hi
    · have hid := hi
      obtain ⟨a, b, c, t, t0, t1, t2⟩ := I.res i hi
      have hij : i ≠ j := fun e => hjd (e ▸ hi)
      have key : ∀ w, 1 ≤ w → parF ov w = i → r' w = r w ∧ (w ∈ cs ++ ai ↔ w ∈ cs) := fun w w1 we => by
        refine ⟨hrn w fun e => ?_, ?_⟩
        · exact hup i hid (e ▸ w1) (e ▸ we)
        · rw [List.mem_append]
          refine ⟨fun hm => hm.resolve_right fun hm => ?_, .inl⟩
          exact hij (we.symm.trans (hpj w (List.mem_append.mpr (.inl hm))))
      refine ⟨by rw [hrd i hi]; exact a, by rw [hrd i hi]; exact b, ?_, t, t0, fun w w1 wN we => ?_, by rw [hrd i hi]; exact t2⟩
      · rw [hrd i hi, c]
        congr 1
        refine S_congr fun w w1 wN we => ?_
        obtain ⟨k1, k2⟩ := key w w1 we
        rw [k1]
        unfold ind
        simp only [k2]
      · obtain ⟨k1, k2⟩ := key w w1 we
        rw [k1, k2]
        exact t1 w w1 wN we
    · rw [List.mem_singleton.mp hi]
      have hjl : ∀ w ∈ ai ++ bi, w ≠ j := fun w hw e => hjd (e ▸ hld' w hw)
      have hbc : ∀ w ∈ bi, w ∉ cs ++ ai := fun w hw hm => by
        rcases List.mem_append.mp hm with hm | hm
        · exact hcsj w hm (hpj w (List.mem_append.mpr (.inr hw)))
        · exact (List.nodup_append.mp hln).2.2 w hm w hw rfl
      refine ⟨by rw [hrj]; exact hx0, by rw [hrj]; exact hxr, ?_, ?_⟩
      · rw [hrj, S_list hln (fun w => (hlm w).trans (hcm w)), List.map_append, List.sum_append, hxb]
        have z1 : (ai.map fun w => (1 - ind (cs ++ ai) w) * r' w).sum = 0 := by
          have : ∀ l : List Nat, (∀ w ∈ l, w ∈ ai) → (l.map fun w => (1 - ind (cs ++ ai) w) * r' w).sum = 0 := by
            intro l
            induction l with
            | nil => exact fun _ => rfl
            | cons y l ih =>
              intro hl
              rw [List.map_cons, List.sum_cons, ih fun w hw => hl w (.tail _ hw)]
              unfold ind
              rw [if_pos (List.mem_append.mpr (.inr (hl y (.head _))))]
              simp
          exact this ai fun w hw => hw
        have z2 : (bi.map fun w => (1 - ind (cs ++ ai) w) * r' w) = bi.map r := List.map_congr_left fun w hw => by
          unfold ind
          rw [if_neg (hbc w hw), hrn w (hjl w (List.mem_append.mpr (.inr hw)))]
          simp
        rw [z1, z2]
        lia
      · have hcase : ∀ w, 1 ≤ w → w < ov.length → parF ov w = j → w ∈ ai ++ bi := fun w a b c => (hlm w).mpr ((hcm w).mpr ⟨b, a, c⟩)
        rcases List.eq_nil_or_concat ai with hai | ⟨a', q, hai⟩
        · refine ⟨room + 1, by lia, fun w w1 wN we => ⟨fun hm => ?_, fun _ => ?_⟩, by rw [hrj]; lia⟩
          · subst hai
            rw [List.append_nil] at hm
            exact absurd we (hcsj w hm)
          · have hm := hcase w w1 wN we
            rw [hrn w (hjl w hm)]
            have := (hr0 w hm).2
            lia
        · rw [List.concat_eq_append] at hai
          have hqm : q ∈ ai ++ bi := by rw [hai]; simp
          have hlast := h4 (a'.map (keyI ov r)) (keyI ov r q) (by rw [hai, List.map_append]; rfl)
          have hwa : wsum (ai.map (keyI ov r)) = wsum (a'.map (keyI ov r)) - r q := by
            rw [hai, List.map_append, wsum_app]
            simp [wsum, keyI]
            lia
          rw [List.pairwise_map] at hsorted
          have hle : ∀ {u v : Nat}, leP (keyI ov r u) (keyI ov r v) → r v ≤ r u := fun {u v} hl => by
            rcases leP_iff.mp hl with hl | ⟨hl, _⟩
            · simp only [keyI] at hl; lia
            · simp only [keyI] at hl; lia
          have hs1 := List.pairwise_append.mp hsorted
          refine ⟨r q, (hr0 q hqm).1, fun w w1 wN we => ⟨fun hm => ?_, fun hm => ?_⟩, by rw [hrj]; lia⟩
          · rcases List.mem_append.mp hm with hm | hm
            · exact absurd we (hcsj w hm)
            · rw [hrn w (hjl w (List.mem_append.mpr (.inl hm)))]
              have h5 := hs1.1
              rw [hai] at h5 hm
              rcases List.mem_append.mp hm with hm | hm
              · exact hle ((List.pairwise_append.mp h5).2.2 w hm q (.head _))
              · rw [List.mem_singleton.mp hm]; exact Int.le_refl _
          · have hm2 := hcase w w1 wN we
            rw [hrn w (hjl w hm2)]
            rcases List.mem_append.mp hm2 with h6 | h6
            · exact absurd (List.mem_append.mpr (.inr h6)) hm
            · exact hle (hs1.2.2 q (by rw [hai]; simp) w h6)
  · intro i d' e
    have := List.append_inj_right' e rfl
    rw [List.singleton_inj] at this
    subst this
    show (cutOf ld room st (plc ov j)).1 = _
    rw [hco, hrj]
end
end Mine
end
section
open PySem PySem.W PyProof.Rows PySem.Calls PySem.Spec
set_option maxRecDepth 100000
namespace Mine
section
variable {ov : List Int} {lds : Nat → Int} {room : Int} {ld : Str → Int}
theorem greedy_all (h : OverOk ov) (hpp : ∀ i, i < ov.length → parF ov i < ov.length) (hdr : ∀ k, k < ov.length → dirS (plc ov k) = plc ov (parF ov k)) (hld : ∀ k, k < ov.length → ld (plc ov k) = lds k) (hb : ∀ k, k < ov.length → 0 ≤ lds k ∧ lds k ≤ room) (hr8 : room ≤ 8) (hz : parF ov 0 = 0)
    {order : List Nat} (hlt : ∀ i ∈ order, i < ov.length) (hnd : order.Nodup) (hall : ∀ i, i < ov.length → i ∈ order) (hpw : order.Pairwise fun i j => (plc ov j).length ≤ (plc ov i).length) :
    ∀ (rest done : List Nat) (st : St) (r : Nat → Int) (cs : List Nat), order = done ++ rest → GInv ov lds room done st r cs → ∃ r' cs', GInv ov lds room order ((rest.map (plc ov)).foldl (turnP ld room) st) r' cs'
  | [], done, st, r, cs, e, I => by
    rw [List.append_nil] at e
    subst e
    exact ⟨r, cs, I⟩
  | j :: rest, done, st, r, cs, e, I => by
    have hlen : ∀ w, 1 ≤ w → w < ov.length → (plc ov (parF ov w)).length < (plc ov w).length := fun w w1 wN => by
      rw [← hdr w wN]
      refine ((pl_facts (plc_7 h wN)).2.2.2.2.2.2.2 fun e => ?_).2
      have := plc_inj h wN (show 0 < ov.length by lia) (by rw [e, plc_zero h])
      lia
    rw [e] at hpw hnd
    obtain ⟨p1, p2, p3⟩ := List.pairwise_append.mp hpw
    obtain ⟨n1, n2, n3⟩ := List.nodup_append.mp hnd
    have hj : j < ov.length := hlt j (by rw [e]; simp)
    have hjd : j ∉ done := fun hm => n3 j hm j (.head _) rfl
    obtain ⟨r', cs', I'⟩ := step h hpp hdr hld hb hr8 I (fun i hi => hlt i (by rw [e]; exact List.mem_append.mpr (.inl hi))) n1 hj hjd hz
      (fun w w1 wN we => by
        have hw := hall w wN
        rw [e] at hw
        have hl := hlen w w1 wN
        rw [we] at hl
        rcases List.mem_append.mp hw with hw | hw
        · exact hw
        · rcases List.mem_cons.mp hw with rfl | hw
          · lia
          · have := (List.pairwise_cons.mp p2).1 w hw
            lia)
      (fun i hi j1 je => by
        have hl := hlen j j1 hj
        rw [je] at hl
        have := p3 i hi j (.head _)
        lia)
    rw [List.map_cons, List.foldl_cons]
    exact greedy_all h hpp hdr hld hb hr8 hz hlt (e ▸ hnd) hall (e ▸ hpw) rest (done ++ [j]) _ r' cs' (by rw [e]; simp) I'
/-- what the cut gives -/
theorem greedy (h : OverOk ov) (h0 : ov.getD 0 0 = 0) (hld : ∀ k, k < ov.length → ld (plc ov k) = lds k) (hb : ∀ k, k < ov.length → 0 ≤ lds k ∧ lds k ≤ room) (hr8 : room ≤ 8) :
    ∃ (r : Nat → Int) (cs : List Nat), (cutF ld room (placesF ov)).cuts = cs.map (cutI ov) ∧ cs.Nodup ∧ (∀ i ∈ cs, 1 ≤ i ∧ i < ov.length) ∧ (cutF ld room (placesF ov)).load = r 0 ∧ ∀ i, i < ov.length → Res ov lds room r cs i := by
  have hN := h.1
  have hz : parF ov 0 = 0 := by unfold parF; rw [h0]; rfl
  have hpp : ∀ i, i < ov.length → parF ov i < ov.length := fun i hi => by
    rcases Nat.eq_zero_or_pos i with rfl | h1
    · rw [hz]; lia
    · have := par_lt h i h1 hi; lia
  have hdr : ∀ k, k < ov.length → dirS (plc ov k) = plc ov (parF ov k) := fun k hk => plc_dir h h0 hk
  have hss : (placesF ov).map keyP = (List.range ov.length).map fun i => keyP (plc ov i) := by rw [placesF_map h, List.map_map]; rfl
  obtain ⟨order, ho, eo⟩ := perm_of_map (sortP_perm ((placesF ov).map keyP)) _ hss
  have hso := sortP_sorted ((placesF ov).map keyP)
  rw [eo, List.pairwise_map] at hso
  have hpw : order.Pairwise fun i j => (plc ov j).length ≤ (plc ov i).length := hso.imp fun {a b} hl => by
    rcases leP_iff.mp hl with hl | ⟨hl, _⟩
    · simp only [keyP] at hl; lia
    · simp only [keyP] at hl; lia
  have hmem : ∀ i, i ∈ order ↔ i < ov.length := fun i => by rw [ho.mem_iff, List.mem_range]
  have hnd : order.Nodup := ho.nodup_iff.mpr List.nodup_range
  have hc : cutF ld room (placesF ov) = (order.map (plc ov)).foldl (turnP ld room) ⟨[], [], 0⟩ := by
    unfold cutF
    rw [eo, List.map_map]
    rfl
  obtain ⟨r, cs, I⟩ := greedy_all h hpp hdr hld hb hr8 hz (order := order) (fun i hi => (hmem i).mp hi) hnd (fun i hi => (hmem i).mpr hi) hpw order [] ⟨[], [], 0⟩ (fun _ => 0) [] rfl
    ⟨rfl, rfl, List.nodup_nil, (fun _ h => nomatch h), (fun _ h => nomatch h), fun i d' e => by simp at e⟩
  rw [← hc] at I
  refine ⟨r, cs, I.cuts, I.nod, fun i hi => ⟨(I.mem i hi).1, (I.mem i hi).2.1⟩, ?_, fun i hi => I.res i ((hmem i).mpr hi)⟩
  rcases List.eq_nil_or_concat order with e | ⟨d', q, e⟩
  · have := (hmem 0).mpr (by lia)
    rw [e] at this
    cases this
  · rw [List.concat_eq_append] at e
    have hq : q = 0 := by
      rcases Nat.eq_zero_or_pos q with hq | hq
      · exact hq
      · exfalso
        have hqN := (hmem q).mp (by rw [e]; simp)
        have hlt := par_lt h q hq hqN
        have hp := (hmem (parF ov q)).mpr (by lia)
        rw [e] at hp hpw
        rcases List.mem_append.mp hp with hp | hp
        · have := (List.pairwise_append.mp hpw).2.2 _ hp q (.head _)
          have hl : (plc ov (parF ov q)).length < (plc ov q).length := by
            rw [← hdr q hqN]
            refine ((pl_facts (plc_7 h hqN)).2.2.2.2.2.2.2 fun e => ?_).2
            have := plc_inj h hqN (show 0 < ov.length by lia) (by rw [e, plc_zero h])
            lia
          lia
        · rw [List.mem_singleton] at hp
          lia
    rw [I.last q d' e, hq]
end
end Mine
end
section
open PySem PySem.W PyProof.Rows PySem.Calls PySem.Spec
set_option maxRecDepth 100000
namespace Mine
theorem sm_shift {f : Nat → Int} : ∀ {n : Nat}, sm (n + 1) (fun w => if 1 ≤ w then f w else 0) = sm n (fun k => f (k + 1))
  | 0 => by simp [sm]
  | n + 1 => by
    rw [sm, sm_shift (n := n)]
    simp [sm]
theorem count_sm {f : Nat → Int} : ∀ {n : Nat}, ((((List.range n).map f).count 0 : Nat) : Int) = sm n (fun k => if f k = 0 then 1 else 0)
  | 0 => rfl
  | n + 1 => by
    rw [List.range_succ, List.map_append, List.count_append, Int.natCast_add, count_sm (n := n)]
    simp only [sm]
    congr 1
    by_cases h : f n = 0
    · rw [if_pos h, List.map_singleton, h]; rfl
    · rw [if_neg h, List.map_singleton, List.count_singleton]
      rw [if_neg (by simpa using h)]; rfl
/-- the cut a choice makes -/
noncomputable def cutC (kept : List Int) (w : Nat) : Int := if kept.getD w 0 = 1 then 0 else 1
theorem bit_01 (c : Int) (k : Nat) : (c.fdiv (2 ^ k)).fmod 2 = 0 ∨ (c.fdiv (2 ^ k)).fmod 2 = 1 := by
  have h1 := Int.fmod_nonneg_of_pos (c.fdiv (2 ^ k)) (b := 2) (by decide)
  have h2 := Int.fmod_lt_of_pos (c.fdiv (2 ^ k)) (b := 2) (by decide)
  lia
theorem kept_at {n k : Nat} {c : Int} (h : k < n) : (keptF n c).getD (k + 1) 0 = (c.fdiv (2 ^ k)).fmod 2 := by
  unfold keptF bitsF
  rw [List.getD_cons_succ, List.getD_eq_getElem?_getD, List.getElem?_map, List.getElem?_range h]
  rfl
theorem zeros_sm {n : Nat} {c : Int} : (zeros (keptF n c) : Int) = sm (n + 1) (fun w => if 1 ≤ w then cutC (keptF n c) w else 0) := by
  unfold zeros
  rw [show keptF n c = 1 :: bitsF n c from rfl, List.count_cons_of_ne (by decide)]
  unfold bitsF
  rw [count_sm, sm_shift]
  refine sm_congr fun k hk => ?_
  have := kept_at (c := c) hk
  unfold keptF bitsF at this
  unfold cutC
  rw [this]
  rcases bit_01 c k with e | e <;> rw [e] <;> rfl
theorem bits_of : ∀ (n : Nat) (b : Nat → Bool), ∃ c : Nat, c < 2 ^ n ∧ ∀ k, k < n → c / 2 ^ k % 2 = if b k = true then 1 else 0
  | 0, b => ⟨0, by decide, fun k h => absurd h (Nat.not_lt_zero _)⟩
  | n + 1, b => by
    obtain ⟨c, h1, h2⟩ := bits_of n fun k => b (k + 1)
    refine ⟨2 * c + (if b 0 = true then 1 else 0), ?_, fun k hk => ?_⟩
    · rw [Nat.pow_succ]
      split <;> lia
    · cases k with
      | zero => rw [Nat.pow_zero, Nat.div_one]; split <;> lia
      | succ k =>
        rw [Nat.pow_succ, Nat.mul_comm (2 ^ k) 2, ← Nat.div_div_eq_div_mul]
        rw [show (2 * c + (if b 0 = true then 1 else 0)) / 2 = c by split <;> lia]
        exact h2 k (by lia)
theorem bit_nat (c k : Nat) : ((c : Int).fdiv (2 ^ k)).fmod 2 = ((c / 2 ^ k % 2 : Nat) : Int) := by
  rw [Int.fdiv_eq_ediv_of_nonneg _ (Int.le_of_lt (Int.pow_pos (by decide))), Int.fmod_eq_emod_of_nonneg _ (by decide)]
  push_cast
  rfl
section
variable {over kept loads : List Int} {r : Nat → Int}
theorem below_at (hp : ∀ k, 1 ≤ k → k < over.length → (over.getD k 0).toNat < k) (hl : loads.length = over.length)
    (hr : ∀ v, v < over.length → r v = loads.getD v 0 + S over.length (fun k => (over.getD k 0).toNat) v (fun w => (1 - cutC kept w) * r w)) : ∀ j, j + 1 ≤ over.length →
    (belowN over kept loads j).length = over.length ∧ ∀ v, v < over.length → (belowN over kept loads j).getD v 0 = loads.getD v 0 + sm over.length (fun w => if over.length - j ≤ w ∧ (over.getD w 0).toNat = v then (1 - cutC kept w) * r w else 0)
  | 0, _ => by
    refine ⟨hl, fun v hv => ?_⟩
    rw [sm_zero fun i hi => if_neg (by lia)]
    show loads.getD v 0 = _
    lia
  | j + 1, hj => by
    obtain ⟨h1, h2⟩ := below_at hp hl hr j (by lia)
    obtain ⟨k, hk⟩ : ∃ k, k = over.length - 1 - j := ⟨_, rfl⟩
    have hk1 : 1 ≤ k := by lia
    have hkN : k < over.length := by lia
    have hpk := hp k hk1 hkN
    have hbk : (belowN over kept loads j).getD k 0 = r k := by
      rw [h2 k hkN, hr k hkN]
      congr 1
      refine sm_congr fun w hw => ?_
      by_cases e : (over.getD w 0).toNat = k
      · by_cases e1 : 1 ≤ w
        · have := hp w e1 hw
          rw [if_pos ⟨by lia, e⟩, if_pos ⟨e1, e⟩]
        · rw [if_neg (fun x => e1 (by have := x.1; lia)), if_neg (fun x => e1 x.1)]
      · rw [if_neg (fun x => e x.2), if_neg (fun x => e x.2)]
    have hspl : ∀ v, sm over.length (fun w => if over.length - (j + 1) ≤ w ∧ (over.getD w 0).toNat = v then (1 - cutC kept w) * r w else 0) = sm over.length (fun w => if over.length - j ≤ w ∧ (over.getD w 0).toNat = v then (1 - cutC kept w) * r w else 0) + (if (over.getD k 0).toNat = v then (1 - cutC kept k) * r k else 0) := fun v => by
      rw [← sm_one (f := fun w => if (over.getD w 0).toNat = v then (1 - cutC kept w) * r w else 0) hkN, ← sm_add]
      refine sm_congr fun w hw => ?_
      by_cases e : w = k
      · subst e
        rw [if_pos rfl, if_neg (show ¬ (over.length - j ≤ w ∧ _) from fun x => by lia), Int.zero_add]
        by_cases e2 : (over.getD w 0).toNat = v
        · rw [if_pos ⟨by lia, e2⟩, if_pos e2]
        · rw [if_neg (fun x => e2 x.2), if_neg e2]
      · rw [if_neg e, Int.add_zero]
        by_cases e2 : over.length - j ≤ w ∧ (over.getD w 0).toNat = v
        · rw [if_pos e2, if_pos ⟨by lia, e2.2⟩]
        · rw [if_neg e2, if_neg (fun x => e2 ⟨by lia, x.2⟩)]
    rw [belowN_succ, ← hk]
    unfold belowStep
    by_cases hkp : kept.getD k 0 = 1
    · rw [if_pos hkp]
      refine ⟨by rw [List.length_set]; exact h1, fun v hv => ?_⟩
      have hc : cutC kept k = 0 := if_pos hkp
      rw [hspl v, hc, hbk, List.getD_eq_getElem?_getD, List.getElem?_set]
      by_cases e : (over.getD k 0).toNat = v
      · rw [if_pos e, if_pos e, if_pos (by lia)]
        rw [e, h2 v hv]
        simp only [Option.getD_some]
        lia
      · rw [if_neg e, if_neg e, ← List.getD_eq_getElem?_getD, h2 v hv]
        lia
    · rw [if_neg hkp]
      refine ⟨h1, fun v hv => ?_⟩
      have hc : cutC kept k = 1 := if_neg hkp
      rw [hspl v, hc, h2 v hv]
      split <;> lia
theorem below_all (hN : 1 ≤ over.length) (hp : ∀ k, 1 ≤ k → k < over.length → (over.getD k 0).toNat < k) (hl : loads.length = over.length)
    (hr : ∀ v, v < over.length → r v = loads.getD v 0 + S over.length (fun k => (over.getD k 0).toNat) v (fun w => (1 - cutC kept w) * r w)) :
    (belowN over kept loads (over.length - 1)).length = over.length ∧ ∀ v, v < over.length → (belowN over kept loads (over.length - 1)).getD v 0 = r v := by
  obtain ⟨h1, h2⟩ := below_at hp hl hr (over.length - 1) (by lia)
  refine ⟨h1, fun v hv => ?_⟩
  rw [h2 v hv, hr v hv, show over.length - (over.length - 1) = 1 by lia]
  rfl
end
theorem maxL_le {l : List Int} {M : Int} (hne : 0 < l.length) : maxL l ≤ M ↔ ∀ i, i < l.length → l.getD i 0 ≤ M := by
  obtain ⟨g1, g2, g3⟩ := foldl_max l (l.headD 0)
  constructor
  · intro h i hi
    have : l.getD i 0 ∈ l := by
      rw [List.getD_eq_getElem?_getD, List.getElem?_eq_getElem hi]
      exact List.getElem_mem hi
    exact Int.le_trans (g2 _ this) h
  · intro h
    unfold maxL
    rcases g3 with g3 | g3
    · rw [g3]
      cases l with
      | nil => exact absurd hne (Nat.lt_irrefl _)
      | cons a r => exact h 0 hne
    · obtain ⟨i, hi, e⟩ := List.getElem_of_mem g3
      rw [← e]
      have := h i hi
      rw [List.getD_eq_getElem?_getD, List.getElem?_eq_getElem hi] at this
      exact this
theorem fewL_mem {over loads : List Int} {room : Int} {q : Int × Int} : ∀ {n : Nat}, q ∈ fewL over loads room n ↔ ∃ c : Nat, c < n ∧ maxL (belowN over (keptF (over.length - 1) c) loads (over.length - 1)) ≤ room ∧ q = ((zeros (keptF (over.length - 1) c) : Int), (belowN over (keptF (over.length - 1) c) loads (over.length - 1)).getD 0 0)
  | 0 => ⟨(fun h => nomatch h), fun ⟨c, h, _⟩ => absurd h (Nat.not_lt_zero _)⟩
  | n + 1 => by
    have ih := fewL_mem (over := over) (loads := loads) (room := room) (q := q) (n := n)
    by_cases h : maxL (belowN over (keptF (over.length - 1) n) loads (over.length - 1)) ≤ room
    · rw [fewL_pos h, List.mem_append, ih, List.mem_singleton]
      constructor
      · rintro (⟨c, a, b, d⟩ | e)
        · exact ⟨c, by lia, b, d⟩
        · exact ⟨n, by lia, h, e⟩
      · rintro ⟨c, a, b, d⟩
        by_cases e : c = n
        · subst e; exact .inr d
        · exact .inl ⟨c, by lia, b, d⟩
    · rw [fewL_neg h, ih]
      constructor
      · rintro ⟨c, a, b, d⟩
        exact ⟨c, by lia, b, d⟩
      · rintro ⟨c, a, b, d⟩
        by_cases e : c = n
        · subst e; exact absurd b h
        · exact ⟨c, by lia, b, d⟩
theorem ltI_iff {p q : P2} : ltI p q = true ↔ p.1 < q.1 ∨ (p.1 = q.1 ∧ p.2 < q.2) := by
  unfold ltI
  by_cases h : p.1 = q.1
  · rw [if_pos h]
    by_cases h2 : p.2 = q.2
    · rw [if_pos h2]; simp [h, h2]
    · rw [if_neg h2, decide_eq_true_iff]; simp [h]
  · rw [if_neg h, decide_eq_true_iff]
    constructor
    · exact .inl
    · rintro (a | a)
      · exact a
      · exact absurd a.1 h
theorem best_min (l : List P2) : ∀ k j, j ≤ k → ltI (l.getD j (0, 0)) (l.getD (bestAt (fun i j => ltI (l.getD i (0, 0)) (l.getD j (0, 0))) k) (0, 0)) = false
  | 0, j, h => by
    have : j = 0 := by lia
    subst this
    cases e : ltI (l.getD 0 (0, 0)) (l.getD 0 (0, 0)) with
    | false => exact e
    | true => have := ltI_iff.mp e; lia
  | k + 1, j, h => by
    have ih := best_min l k
    unfold bestAt
    generalize bestAt (fun i j => ltI (l.getD i (0, 0)) (l.getD j (0, 0))) k = b at ih
    split
    · rename_i h1
      have h1' := ltI_iff.mp h1
      cases e : ltI (l.getD j (0, 0)) (l.getD (k + 1) (0, 0)) with
      | false => rfl
      | true =>
        have h2 := ltI_iff.mp e
        rcases Nat.lt_or_ge k j with h3 | h3
        · have : j = k + 1 := by lia
          subst this
          lia
        · have h4 := ih j h3
          have : ltI (l.getD j (0, 0)) (l.getD b (0, 0)) = true := ltI_iff.mpr (by lia)
          rw [h4] at this
          cases this
    · rename_i h1
      rcases Nat.lt_or_ge k j with h3 | h3
      · have : j = k + 1 := by lia
        subst this
        exact Bool.eq_false_iff.mpr h1
      · exact ih j h3
/-- the least of a list, when we know it -/
theorem best_eq {l : List P2} {m q : P2} (hm : m ∈ l) (hmin : ∀ p ∈ l, m.1 < p.1 ∨ (m.1 = p.1 ∧ m.2 ≤ p.2)) (hq : l[bestL l]? = some q) : q = m := by
  obtain ⟨i, hi, e⟩ := List.getElem_of_mem hm
  have h1 := best_min l (l.length - 1) i (by lia)
  have e1 : l.getD i (0, 0) = m := by rw [List.getD_eq_getElem?_getD, List.getElem?_eq_getElem hi, e]; rfl
  have e2 : l.getD (bestAt (fun i j => ltI (l.getD i (0, 0)) (l.getD j (0, 0))) (l.length - 1)) (0, 0) = q := by
    unfold bestL at hq
    rw [List.getD_eq_getElem?_getD, hq]; rfl
  rw [e1, e2] at h1
  have h2 := hmin q (List.mem_of_getElem? hq)
  have h3 : ¬ (m.1 < q.1 ∨ (m.1 = q.1 ∧ m.2 < q.2)) := fun h => by rw [ltI_iff.mpr h] at h1; cases h1
  refine Prod.ext ?_ ?_ <;> lia
end Mine
end
section
open PySem PySem.W PyProof.Rows PySem.Calls PySem.Spec
set_option maxRecDepth 100000
namespace Mine
theorem lookup_at {x : Str} {v : Int} : ∀ {ss : List Str} {ls : List Int} {k : Nat}, ss.Nodup → ss[k]? = some x → ls[k]? = some v → (ss.zip ls).lookup x = some v
  | [], _, _, _, h, _ => by simp at h
  | s :: ss, [], _, _, _, h => by simp at h
  | s :: ss, l :: ls, 0, _, h1, h2 => by
    simp at h1 h2
    subst h1; subst h2
    simp
  | s :: ss, l :: ls, k + 1, hn, h1, h2 => by
    rw [List.nodup_cons] at hn
    rw [List.getElem?_cons_succ] at h1 h2
    have hne : x ≠ s := fun e => hn.1 (e ▸ List.mem_of_getElem? h1)
    rw [List.zip_cons_cons, List.lookup_cons]
    have : (x == s) = false := by simpa using hne
    rw [this]
    exact lookup_at hn.2 h1 h2
theorem str_beq {a b : Str} : (a == b) = decide (a = b) := by
  by_cases e : a = b
  · simp [e]
  · simp [e]
/-- climb to the head -/
noncomputable def hF (par : Nat → Nat) (cs : List Nat) : Nat → Nat → Nat
  | 0, v => v
  | f + 1, v => if v ≠ 0 ∧ v ∉ cs then hF par cs f (par v) else v
section
variable {N : Nat} {par : Nat → Nat} {cs : List Nat}
theorem hF_lt (hp : ∀ k, 1 ≤ k → k < N → par k < k) : ∀ (f v : Nat), v < N → hF par cs f v ≤ v
  | 0, v, _ => Nat.le_refl _
  | f + 1, v, hv => by
    unfold hF
    split
    · rename_i h
      have := hp v (by lia) hv
      exact Nat.le_trans (hF_lt hp f _ (by lia)) (by lia)
    · exact Nat.le_refl _
theorem hF_stab (hp : ∀ k, 1 ≤ k → k < N → par k < k) : ∀ (f f' v : Nat), v ≤ f → v ≤ f' → v < N → hF par cs f v = hF par cs f' v
  | 0, 0, v, _, _, _ => rfl
  | 0, f' + 1, v, h, _, _ => by
    unfold hF
    rw [if_neg (fun x => x.1 (by lia))]
  | f + 1, 0, v, _, h, _ => by
    unfold hF
    rw [if_neg (fun x => x.1 (by lia))]
  | f + 1, f' + 1, v, h, h', hv => by
    unfold hF
    split
    · rename_i hc
      have := hp v (by lia) hv
      exact hF_stab hp f f' _ (by lia) (by lia) (by lia)
    · rfl
theorem hF_eq (hp : ∀ k, 1 ≤ k → k < N → par k < k) (hN : N ≤ 16) : ∀ v, v < N → hF par cs 16 v = if v ≠ 0 ∧ ind cs v = 0 then hF par cs 16 (par v) else v := fun v hv => by
  have e : (v ≠ 0 ∧ ind cs v = 0) ↔ (v ≠ 0 ∧ v ∉ cs) := by
    unfold ind
    by_cases h : v ∈ cs
    · simp [h]
    · simp [h]
  by_cases h : v ≠ 0 ∧ v ∉ cs
  · rw [if_pos (e.mpr h)]
    have := hp v (by lia) hv
    rw [show hF par cs 16 v = hF par cs 15 (par v) from by rw [hF, if_pos h]]
    exact hF_stab hp 15 16 _ (by lia) (by lia) (by lia)
  · rw [if_neg (fun x => h (e.mp x)), hF, if_neg h]
theorem hF_top (hp : ∀ k, 1 ≤ k → k < N → par k < k) : ∀ (f v : Nat), v ≤ f → v < N → hF par cs f v = 0 ∨ hF par cs f v ∈ cs
  | 0, v, h, _ => .inl (by unfold hF; lia)
  | f + 1, v, h, hv => by
    unfold hF
    split
    · rename_i hc
      have := hp v (by lia) hv
      exact hF_top hp f _ (by lia) (by lia)
    · rename_i hc
      by_cases h0 : v = 0
      · exact .inl h0
      · exact .inr (Classical.byContradiction fun h1 => hc ⟨h0, h1⟩)
theorem sol_d (c : Nat → Int) (hp : ∀ k, 1 ≤ k → k < N → par k < k) : ∃ d : Nat → Int, ∀ v, v < N → d v = S N par v (fun w => c w + d w) := by
  obtain ⟨d, hd⟩ := sol (fun v => S N par v c) (fun _ => 1) hp
  refine ⟨d, fun v hv => ?_⟩
  refine (hd v hv).trans ?_
  unfold S
  rw [← sm_add]
  refine sm_congr fun w _ => ?_
  by_cases e : 1 ≤ w ∧ par w = v
  · rw [if_pos e, if_pos e, if_pos e]
    show c w + 1 * d w = c w + d w
    lia
  · rw [if_neg e, if_neg e, if_neg e]; rfl
theorem ind_sum (hn : cs.Nodup) (hm : ∀ i ∈ cs, 1 ≤ i ∧ i < N) : sm N (fun w => if 1 ≤ w then ind cs w else 0) = cs.length := by
  rw [sm_congr (g := fun w => if w ∈ cs then 1 else 0) fun w _ => by
    unfold ind
    by_cases e : w ∈ cs
    · rw [if_pos (hm w e).1]
    · rw [if_neg e]; split <;> rfl]
  rw [sm_filter (p := fun w => w ∈ cs) (f := fun _ => 1)]
  rw [sum_perm (List.Perm.map _ (perm_of_mem (l2 := cs) (List.Nodup.sublist List.filter_sublist List.nodup_range) hn fun w => by
    rw [List.mem_filter, List.mem_range, decide_eq_true_iff]
    exact ⟨fun h => h.2, fun h => ⟨(hm w h).2, h⟩⟩))]
  have : ∀ l : List Nat, (l.map fun _ => (1 : Int)).sum = l.length := by
    intro l
    induction l with
    | nil => rfl
    | cons x l ih => rw [List.map_cons, List.sum_cons, ih, List.length_cons]; lia
  exact this cs
end
structure LawEnd (ov ls : List Int) (room : Int) (its : List HIt) : Prop where
  ok : CutsOk (its.map (·.2))
  len : its.length ≤ 8
  parts : maxL (partsF (placesF ov) ((placesF ov).map (headF its 16)) ls) ≤ room
  top : (partsF (placesF ov) ((placesF ov).map (headF its 16)) ls).getD 0 0 = (cutF (ldF (placesF ov) ls) room (placesF ov)).load
  plen : 0 < (partsF (placesF ov) ((placesF ov).map (headF its 16)) ls).length ∧ (partsF (placesF ov) ((placesF ov).map (headF its 16)) ls).length ≤ 8
  nod : (its.map (·.2)).Nodup
  made : (its.map (·.2)).Perm (madeF ov (placesF ov) ((placesF ov).map (headF its 16)) (ov.length - 1))
  few : 0 < (fewL ov ls room (2 ^ (ov.length - 1))).length
  best : ∀ q, (fewL ov ls room (2 ^ (ov.length - 1)))[bestL (fewL ov ls room (2 ^ (ov.length - 1)))]? = some q → q = ((its.length : Int), (cutF (ldF (placesF ov) ls) room (placesF ov)).load)
theorem getD_map_range {α : Type} {f : Nat → α} {n k : Nat} {d : α} (h : k < n) : ((List.range n).map f).getD k d = f k := by
  rw [List.getD_eq_getElem?_getD, List.getElem?_map, List.getElem?_range h]
  rfl
theorem list_range {ls : List Int} : ls = (List.range ls.length).map fun k => ls.getD k 0 := by
  refine List.ext_getElem (by simp) fun i h1 h2 => ?_
  rw [List.getElem_map, List.getElem_range, List.getD_eq_getElem?_getD, List.getElem?_eq_getElem h1]
  rfl
theorem maxL_all {l : List Int} {M : Int} (hne : 0 < l.length) (h : ∀ a ∈ l, a ≤ M) : maxL l ≤ M := (maxL_le hne).mpr fun i hi => h _ (by
  rw [List.getD_eq_getElem?_getD, List.getElem?_eq_getElem hi]
  exact List.getElem_mem hi)
theorem law_end {ov ls : List Int} {room : Int} {its : List HIt} (h : OverOk ov) (h0 : ov.getD 0 0 = 0) (hl : ls.length = ov.length) (hb : ∀ v ∈ ls, 1 ≤ v ∧ v ≤ 5) (hr1 : 5 ≤ room) (hr8 : room ≤ 8)
    (hits : its.map (·.2) = (cutF (ldF (placesF ov) ls) room (placesF ov)).cuts) : LawEnd ov ls room its := by
  have hN := h.1
  have hN8 := h.2.1
  have hp := par_lt h
  obtain ⟨lds, hlds⟩ : ∃ lds : Nat → Int, lds = fun k => ls.getD k 0 := ⟨_, rfl⟩
  have hlk : ∀ k, k < ov.length → ls[k]? = some (lds k) := fun k hk => by
    rw [hlds]
    dsimp only
    rw [List.getD_eq_getElem?_getD, List.getElem?_eq_getElem (by lia)]; rfl
  have hld : ∀ k, k < ov.length → ldF (placesF ov) ls (plc ov k) = lds k := fun k hk => by
    unfold ldF
    rw [lookup_at (placesF_nodup h) (k := k) (v := lds k) (by rw [placesF_map h, List.getElem?_map, List.getElem?_range hk]; rfl) (hlk k hk)]
    rfl
  have hb5 : ∀ k, k < ov.length → 1 ≤ lds k ∧ lds k ≤ 5 := fun k hk => hb _ (List.mem_of_getElem? (hlk k hk))
  obtain ⟨r, cs, hcuts, hnod, hmem, hload, hres⟩ := greedy (ld := ldF (placesF ov) ls) (lds := lds) (room := room) h h0 hld (fun k hk => by have := hb5 k hk; lia) hr8
  rw [hcuts] at hits
  have hlen : its.length = cs.length := by
    have := congrArg List.length hits
    rwa [List.length_map, List.length_map] at this
  have hc01 : ∀ v, v < ov.length → ind cs v = 0 ∨ ind cs v = 1 := fun v _ => by unfold ind; split <;> simp
  have hreq : ∀ v, v < ov.length → r v = lds v + S ov.length (parF ov) v (fun w => (1 - ind cs w) * r w) := fun v hv => (hres v hv).2.2.1
  -- the heads
  obtain ⟨hd, hhd⟩ : ∃ hd : Nat → Nat, hd = hF (parF ov) cs 16 := ⟨_, rfl⟩
  have hdlt : ∀ v, v < ov.length → hd v < ov.length := fun v hv => by rw [hhd]; exact Nat.lt_of_le_of_lt (hF_lt hp 16 v hv) hv
  have hget : ∀ k, k < ov.length → ((getF (plc ov k) its).isSome = false ↔ k ∉ cs) := fun k hk => by
    unfold getF
    rw [Option.isSome_map]
    constructor
    · intro hs hm
      have hq : cutI ov k ∈ its.map (·.2) := by rw [hits]; exact List.mem_map_of_mem hm
      obtain ⟨q, hq1, hq2⟩ := List.mem_map.mp hq
      have := List.find?_isSome (p := fun q : HIt => Txt.lower q.2.1 == Txt.lower (plc ov k)) (xs := its)
      rw [hs] at this
      refine Bool.noConfusion (this.mpr ⟨q, hq1, ?_⟩)
      rw [hq2]
      show (Txt.lower (Txt.upper (plc ov k)) == Txt.lower (plc ov k)) = true
      rw [upper_pl (plc_7 h hk), (pl_facts (plc_7 h hk)).2.2.2.2.1, beq_iff_eq]
    · intro hm
      refine Bool.eq_false_iff.mpr fun hs => hm ?_
      obtain ⟨q, hq1, hq2⟩ := List.find?_isSome.mp hs
      have hq : q.2 ∈ its.map (·.2) := List.mem_map_of_mem hq1
      rw [hits] at hq
      obtain ⟨i, hi, e⟩ := List.mem_map.mp hq
      rw [← e] at hq2
      have hiN := (hmem i hi).2
      have e2 : (Txt.lower (Txt.upper (plc ov i)) == Txt.lower (plc ov k)) = true := hq2
      rw [upper_pl (plc_7 h hiN), (pl_facts (plc_7 h hk)).2.2.2.2.1, beq_iff_eq] at e2
      exact plc_inj h hiN hk e2 ▸ hi
  have hhead : ∀ f k, k < ov.length → headF its f (plc ov k) = plc ov (hF (parF ov) cs f k) := by
    intro f
    induction f with
    | zero => exact fun k _ => rfl
    | succ f ih =>
      intro k hk
      unfold headF hF
      have e1 : (plc ov k != Str.ofString "/") = true ↔ k ≠ 0 := by
        rw [bne_iff_ne]
        constructor
        · rintro a rfl; exact a (plc_zero h)
        · intro a e; exact a (plc_inj h hk (by lia) (by rw [e, plc_zero h]))
      by_cases hc : k ≠ 0 ∧ k ∉ cs
      · rw [if_pos hc, if_pos ⟨e1.mpr hc.1, (hget k hk).mpr hc.2⟩, plc_dir h h0 hk]
        exact ih _ (by have := hp k (by lia) hk; lia)
      · rw [if_neg hc, if_neg (fun x => hc ⟨e1.mp x.1, (hget k hk).mp x.2⟩)]
  have hhs : (placesF ov).map (headF its 16) = (List.range ov.length).map fun v => plc ov (hd v) := by
    rw [placesF_map h, List.map_map]
    refine List.map_congr_left fun v hv => ?_
    rw [hhd]
    exact hhead 16 v (List.mem_range.mp hv)
  have hheq : ∀ v, v < ov.length → hd v = if v ≠ 0 ∧ ind cs v = 0 then hd (parF ov v) else v := by
    rw [hhd]
    exact hF_eq hp (by lia)
  have hdtop : ∀ v, v < ov.length → hd v = 0 ∨ hd v ∈ cs := fun v hv => by rw [hhd]; exact hF_top hp 16 v (by lia) hv
  have hd0 : hd 0 = 0 := by rw [hheq 0 (by lia), if_neg (fun x => x.1 rfl)]
  have hpart : ∀ t, t < ov.length → (t = 0 ∨ t ∈ cs) → (partF ((placesF ov).map (headF its 16)) ls (plc ov t)).sum = r t := fun t ht htc => by
    have e2 : ls = (List.range ov.length).map lds := by rw [hlds, ← hl]; exact list_range
    have := heads (N := ov.length) (par := parF ov) (h := hd) hp hc01 hreq hheq ht (htc.imp id fun hm => by unfold ind; exact if_pos hm)
    rw [sm_filter (p := fun v => hd v = t) (f := lds)] at this
    rw [← this]
    unfold partF
    rw [hhs]
    rw [show ((List.range ov.length).map fun v => plc ov (hd v)).zip ls = (List.range ov.length).map fun v => (plc ov (hd v), lds v) by
      conv => lhs; rw [e2]
      exact List.zip_map' ..]
    rw [List.filter_map, List.map_map]
    congr 1
    rw [show (List.range ov.length).filter ((fun q : Str × Int => q.1 == plc ov t) ∘ fun v => (plc ov (hd v), lds v)) = (List.range ov.length).filter fun w => decide (hd w = t) from List.filter_congr fun v hv => by
      have hv' := List.mem_range.mp hv
      show (plc ov (hd v) == plc ov t) = _
      rw [str_beq]
      exact decide_eq_decide.mpr ⟨fun e => plc_inj h (hdlt v hv') ht e, fun e => by rw [e]⟩]
    rfl
  have hcont : ∀ p ∈ placesF ov, ((placesF ov).map (headF its 16)).contains p = true → ∃ t, t < ov.length ∧ (t = 0 ∨ t ∈ cs) ∧ p = plc ov t := fun p _ hc => by
    rw [List.contains_iff_mem, hhs] at hc
    obtain ⟨v, hv, e⟩ := List.mem_map.mp hc
    have hv' := List.mem_range.mp hv
    exact ⟨hd v, hdlt v hv', hdtop v hv', e.symm⟩
  have hpt : ∀ a ∈ partsF (placesF ov) ((placesF ov).map (headF its 16)) ls, a ≤ room := fun a ha => by
    unfold partsF at ha
    obtain ⟨p, hp1, rfl⟩ := List.mem_map.mp ha
    rw [List.mem_filter] at hp1
    obtain ⟨t, ht, htc, rfl⟩ := hcont p hp1.1 hp1.2
    rw [hpart t ht htc]
    exact (hres t ht).2.1
  have hfirst : ∃ rest, partsF (placesF ov) ((placesF ov).map (headF its 16)) ls = r 0 :: rest := by
    obtain ⟨M, hM⟩ : ∃ M, ov.length = M + 1 := ⟨ov.length - 1, by lia⟩
    have e : placesF ov = plc ov 0 :: ((List.range M).map Nat.succ).map (plc ov) := by
      rw [placesF_map h, hM, List.range_succ_eq_map]; rfl
    have hc : ((placesF ov).map (headF its 16)).contains (plc ov 0) = true := by
      rw [List.contains_iff_mem, hhs]
      exact List.mem_map.mpr ⟨0, List.mem_range.mpr (by lia), by rw [hd0]⟩
    generalize hhsL : (placesF ov).map (headF its 16) = hsL at hc
    have hpz := hpart 0 (by lia) (.inl rfl)
    rw [hhsL] at hpz
    unfold partsF
    rw [e, List.filter_cons, if_pos hc, List.map_cons, hpz]
    exact ⟨_, rfl⟩
  obtain ⟨rest, hrest⟩ := hfirst
  -- the choices
  have hpe : (fun k => (ov.getD k 0).toNat) = parF ov := rfl
  obtain ⟨ds, hds⟩ := sol_d (ind cs) hp
  have hdst : ds 0 = cs.length := by rw [total (by lia) hp hds]; exact ind_sum hnod hmem
  have hmin : ∀ p ∈ fewL ov ls room (2 ^ (ov.length - 1)), (cs.length : Int) < p.1 ∨ ((cs.length : Int) = p.1 ∧ r 0 ≤ p.2) := fun p hpm => by
    obtain ⟨c, hc, hmx, rfl⟩ := fewL_mem.mp hpm
    obtain ⟨rc, hrc⟩ := sol lds (fun w => 1 - cutC (keptF (ov.length - 1) c) w) hp
    have hrc' : ∀ v, v < ov.length → rc v = ls.getD v 0 + S ov.length (fun k => (ov.getD k 0).toNat) v (fun w => (1 - cutC (keptF (ov.length - 1) c) w) * rc w) := by
      rw [hpe]
      intro v hv
      rw [hrc v hv, hlds]
    obtain ⟨b1, b2⟩ := below_all hN hp hl hrc'
    have feas : ∀ v, v < ov.length → rc v ≤ room := fun v hv => by
      rw [← b2 v hv]
      exact (maxL_le (by lia)).mp hmx v (by lia)
    obtain ⟨dc, hdc⟩ := sol_d (cutC (keptF (ov.length - 1) c)) hp
    have hz : dc 0 = (zeros (keptF (ov.length - 1) c) : Int) := by
      rw [total (by lia) hp hdc, zeros_sm]
      congr 1
      lia
    have := km hp (fun v hv => by have := hb5 v hv; lia) (fun v _ => by unfold cutC; split <;> simp) hc01 hrc hreq hdc hds feas
      (fun v hv => by
        obtain ⟨t, t0, t1, t2⟩ := (hres v hv).2.2.2
        refine ⟨t, t0, fun w w1 wN we => ⟨fun e => (t1 w w1 wN we).1 ?_, fun e => (t1 w w1 wN we).2 ?_⟩, t2⟩
        · unfold ind at e
          exact Classical.byContradiction fun hn => by rw [if_neg hn] at e; cases e
        · unfold ind at e
          exact fun hm => by rw [if_pos hm] at e; cases e) 0 (by lia)
    rw [hz, hdst] at this
    rw [b2 0 (by lia)]
    dsimp only
    lia
  have hin : ((cs.length : Int), r 0) ∈ fewL ov ls room (2 ^ (ov.length - 1)) := by
    obtain ⟨c, hc, hbit⟩ := bits_of (ov.length - 1) fun k => !(cs.contains (k + 1))
    have hcut : ∀ w, w < ov.length → cutC (keptF (ov.length - 1) c) w = ind cs w := fun w hw => by
      cases w with
      | zero =>
        have e1 : cutC (keptF (ov.length - 1) c) 0 = 0 := if_pos rfl
        have e2 : ind cs 0 = 0 := if_neg fun hm => absurd (hmem 0 hm).1 (by decide)
        rw [e1, e2]
      | succ k =>
        unfold cutC ind
        rw [kept_at (by lia), bit_nat, hbit k (by lia)]
        by_cases hm : k + 1 ∈ cs
        · have : cs.contains (k + 1) = true := List.contains_iff_mem.mpr hm
          rw [this, if_pos hm]
          rfl
        · have : cs.contains (k + 1) = false := Bool.eq_false_iff.mpr fun e => hm (List.contains_iff_mem.mp e)
          rw [this, if_neg hm]
          rfl
    have hrc' : ∀ v, v < ov.length → r v = ls.getD v 0 + S ov.length (fun k => (ov.getD k 0).toNat) v (fun w => (1 - cutC (keptF (ov.length - 1) c) w) * r w) := by
      rw [hpe]
      intro v hv
      rw [hreq v hv, hlds]
      congr 1
      exact S_congr fun w _ wN _ => by rw [hcut w wN]
    obtain ⟨b1, b2⟩ := below_all hN hp hl hrc'
    refine fewL_mem.mpr ⟨c, hc, (maxL_le (by lia)).mpr fun i hi => ?_, ?_⟩
    · rw [b2 i (by lia)]
      exact (hres i (by lia)).2.1
    · rw [b2 0 (by lia), zeros_sm]
      refine Prod.ext ?_ rfl
      dsimp only
      rw [show ov.length - 1 + 1 = ov.length by lia, ← ind_sum hnod hmem]
      exact sm_congr fun w hw => by rw [hcut w hw]
  refine ⟨?_, ?_, ?_, ?_, ?_, ?_, ?_, ?_, ?_⟩
  · intro q hq
    rw [hits] at hq
    obtain ⟨i, hi, rfl⟩ := List.mem_map.mp hq
    obtain ⟨i1, iN⟩ := hmem i hi
    have := hp i i1 iN
    exact ⟨⟨plc ov i, plc_7 h iN, rfl⟩, plc_7 h (by lia)⟩
  · rw [hlen]
    have := List.Nodup.length_le_of_subset hnod (l₂ := List.range ov.length) fun i hi => List.mem_range.mpr (hmem i hi).2
    rw [List.length_range] at this
    lia
  · exact maxL_all (by rw [hrest]; exact Nat.succ_pos _) hpt
  · rw [hrest, hload]; rfl
  · refine ⟨by rw [hrest]; exact Nat.succ_pos _, ?_⟩
    unfold partsF
    rw [List.length_map]
    exact Nat.le_trans (List.length_filter_le _ _) (by rw [placesF_len h]; exact hN8)
  · rw [hits]
    refine nodup_map_on hnod fun a ha b hb' e => ?_
    have e1 := congrArg (fun q : Kv => Txt.lower q.1) e
    dsimp only [cutI] at e1
    rw [upper_pl (plc_7 h (hmem a ha).2), upper_pl (plc_7 h (hmem b hb').2)] at e1
    exact plc_inj h (hmem a ha).2 (hmem b hb').2 e1
  · rw [hits]
    have e : madeF ov (placesF ov) ((placesF ov).map (headF its 16)) (ov.length - 1) = (((List.range (ov.length - 1)).filter fun j => decide (j + 1 ∈ cs)).map (· + 1)).map (cutI ov) := by
      rw [List.map_map]
      unfold madeF
      rw [show ((List.range (ov.length - 1)).filter fun j => ((placesF ov).map (headF its 16)).getD (j + 1) s0 == (placesF ov).getD (j + 1) s0) = (List.range (ov.length - 1)).filter fun j => decide (j + 1 ∈ cs) from List.filter_congr fun j hj => by
        have hj' : j + 1 < ov.length := by have := List.mem_range.mp hj; lia
        rw [hhs, getD_map_range hj']
        show (plc ov (hd (j + 1)) == plc ov (j + 1)) = _
        rw [str_beq]
        refine decide_eq_decide.mpr ⟨fun e => ?_, fun hm => ?_⟩
        · have := plc_inj h (hdlt _ hj') hj' e
          rcases hdtop (j + 1) hj' with h1 | h1
          · lia
          · rw [this] at h1; exact h1
        · rw [hheq (j + 1) hj', if_neg (fun x => by
            have := x.2
            unfold ind at this
            rw [if_pos hm] at this
            cases this)]]
      rfl
    rw [e]
    refine List.Perm.map _ (perm_of_mem hnod ?_ fun i => ?_)
    · exact nodup_map_on (List.Nodup.sublist List.filter_sublist List.nodup_range) fun a _ b _ e => by lia
    · rw [List.mem_map]
      constructor
      · intro hi
        obtain ⟨i1, iN⟩ := hmem i hi
        refine ⟨i - 1, List.mem_filter.mpr ⟨List.mem_range.mpr (by lia), ?_⟩, by lia⟩
        rw [show i - 1 + 1 = i by lia]
        exact decide_eq_true hi
      · rintro ⟨j, hj, rfl⟩
        exact of_decide_eq_true (List.mem_filter.mp hj).2
  · exact List.length_pos_of_mem hin
  · intro q hq
    rw [hload, hlen]
    exact best_eq hin hmin hq
theorem placesF_7 {ov : List Int} (h : OverOk ov) : ∀ p ∈ placesF ov, p ∈ pl 7 := fun p hp => by
  rw [placesF_map h] at hp
  obtain ⟨i, hi, rfl⟩ := List.mem_map.mp hp
  exact plc_7 h (List.mem_range.mp hi)
theorem overF_zero (ns : List Int) : (overF ns).getD 0 0 = 0 := by
  have : ∀ (l a : List Int), ∃ b, l.foldl overStep (0 :: a) = 0 :: b := by
    intro l
    induction l with
    | nil => exact fun a => ⟨a, rfl⟩
    | cons x l ih => exact fun a => ih _
  obtain ⟨b, e⟩ := this ns []
  unfold overF
  rw [e]
  rfl
end Mine
end
section
open PySem PySem.W PyProof.Rows PySem.Calls PySem.Spec
set_option maxRecDepth 100000
namespace Mine
theorem law_post (ns : List Int) : WTm.value PySem.Challenge.rw_il0086_01.row.records PySem.Challenge.rw_il0086_01.row.post
      { args := [ofPy (PyData.list (List.map PyData.int ns))], res := some (WData.bool true), after := [ofPy (PyData.list (List.map PyData.int ns))] } = some (WData.bool true) := by
  first | rfl | wtm_val
end Mine
end
section
open PySem PySem.W PyProof.Rows PySem.Calls PySem.Spec
set_option maxRecDepth 100000
set_option maxHeartbeats 0
namespace Mine
local macro_rules | `(tactic| omega) => `(tactic| first | (with_reducible first | assumption | exact Nat.le_of_ble_eq_true rfl | exact lit_le (by assumption) rfl | exact lit_lt (by assumption) rfl) | lia)
local macro_rules | `(tactic| size_fits) => `(tactic| first | with_reducible assumption | exact Nat.le_of_ble_eq_true rfl | (simp only [sizeLine_eq]; omega))
local macro_rules | `(tactic| k_asm) => `(tactic| first | with_reducible assumption | with_reducible exact Frag.In.keeps (by assumption) (Fr.keep (by assumption)))
local macro_rules | `(tactic| kun_tup) => `(tactic| exact News.isTup (by k_asm) (by ((repeat (refine List.Mem.tail _ ?_)); assumption)))
local macro_rules | `(tactic| k_room) => `(tactic| (first | exact room2 (by assumption) rfl | exact room1 (by assumption) rfl | exact room0 (by assumption) | exact blt rfl | ktr_room))
local macro_rules | `(tactic| k_all) => `(tactic| assumption)
local macro_rules | `(tactic| k_all) => `(tactic| first | (refine off1L ?_; walk_at "axf") | with_reducible exact gtL (by assumption) | with_reducible exact offL (by assumption) | (refine ltL ?_; walk_at "axf") | exact List.forall_mem_nil _ | (refine' List.forall_mem_cons.mpr ⟨?a, ?b⟩; (case a => k_ne); (case b => k_all)))
local macro_rules | `(tactic| walk_at "axf") => `(tactic| with_reducible first | assumption | exact And.left (by assumption) | exact And.right (by assumption) | exact And.left (And.right (by assumption)) | exact And.right (And.right (by assumption)) | exact And.left (And.right (And.right (by assumption))) | exact And.right (And.right (And.right (by assumption))) | exact And.left (And.right (And.right (And.right (by assumption)))) | exact And.right (And.right (And.right (And.right (by assumption)))) | exact And.left (ar4 (by assumption)) | exact And.right (ar4 (by assumption)) | exact And.left (And.right (ar4 (by assumption))) | exact And.right (And.right (ar4 (by assumption))) | exact And.left (And.right (And.right (ar4 (by assumption)))) | exact And.right (And.right (And.right (ar4 (by assumption)))) | exact And.left (And.right (And.right (And.right (ar4 (by assumption))))) | exact And.right (And.right (And.right (And.right (ar4 (by assumption))))) | exact And.left (ar4 (ar4 (by assumption))) | exact And.right (ar4 (ar4 (by assumption))) | exact And.left (And.right (ar4 (ar4 (by assumption)))) | exact And.right (And.right (ar4 (ar4 (by assumption)))) | exact And.left (And.right (And.right (ar4 (ar4 (by assumption))))) | exact And.right (And.right (And.right (ar4 (ar4 (by assumption))))) | exact And.left (And.right (And.right (And.right (ar4 (ar4 (by assumption)))))) | exact And.right (And.right (And.right (And.right (ar4 (ar4 (by assumption)))))) | exact And.left (ar4 (ar4 (ar4 (by assumption)))) | exact And.right (ar4 (ar4 (ar4 (by assumption)))) | exact And.left (And.right (ar4 (ar4 (ar4 (by assumption))))) | exact And.right (And.right (ar4 (ar4 (ar4 (by assumption))))) | exact And.left (And.right (And.right (ar4 (ar4 (ar4 (by assumption)))))) | exact And.right (And.right (And.right (ar4 (ar4 (ar4 (by assumption)))))) | exact And.left (And.right (And.right (And.right (ar4 (ar4 (ar4 (by assumption))))))) | exact And.right (And.right (And.right (And.right (ar4 (ar4 (ar4 (by assumption))))))) | exact And.left (ar4 (ar4 (ar4 (ar4 (by assumption))))) | exact And.right (ar4 (ar4 (ar4 (ar4 (by assumption))))) | exact And.left (And.right (ar4 (ar4 (ar4 (ar4 (by assumption)))))) | exact And.right (And.right (ar4 (ar4 (ar4 (ar4 (by assumption)))))) | exact And.left (And.right (And.right (ar4 (ar4 (ar4 (ar4 (by assumption))))))) | exact And.right (And.right (And.right (ar4 (ar4 (ar4 (ar4 (by assumption))))))) | exact And.left (And.right (And.right (And.right (ar4 (ar4 (ar4 (ar4 (by assumption)))))))) | exact And.right (And.right (And.right (And.right (ar4 (ar4 (ar4 (ar4 (by assumption)))))))))
local macro_rules | `(tactic| k_ne) => `(tactic| (refine neN ?_; (try dsimp only); first | (with_reducible first | assumption | exact Ne.symm (by assumption) | exact up1 _ | exact up2 _ | exact up3 _ | exact up4 _ | exact dn1 _ | exact dn2 _ | exact dn3 _ | exact dn4 _) | (refine Nat.ne_of_lt ?_; walk_at "axf") | (refine Nat.ne_of_gt ?_; walk_at "axf") | walk_at "axf" | (refine Ne.symm ?_; walk_at "axf") | lia))
theorem main.tw5640940473456500986 : True := trivial
theorem main.tw14148177179885854485 : True := trivial
theorem main.tw13547569757486424058 : True := trivial
theorem main.tw11770474507260867162 : True := trivial
theorem main.tw11013106996041573379 : True := trivial
theorem main.tw5515560833506152761 : True := trivial
theorem main.tw11129264269027447598 : True := trivial
theorem main.tw10899915308481594680 : True := trivial
theorem main.tw3963758770060641990 : True := trivial
theorem main.tw11156056980113079860 : True := trivial
theorem main.tw16826212616301561204 : True := trivial
theorem main.tw5930166743995024699 : True := trivial
theorem main.tw14510055921401542917 : True := trivial
theorem main.tw2422408961436860177 : True := trivial
theorem main.tw15972721012048371443 : True := trivial
theorem main.tw4639609864194184464 : True := trivial
theorem main.tw10924716458440934090 : True := trivial
theorem main.tw9121559901702372667 : True := trivial
theorem main.tw4812270449578504274 : True := trivial
theorem main.tw16411370214107742406 : True := trivial
theorem main.tw10825838108423173272 : True := trivial
theorem main.tw4365514962571936147 : True := trivial
theorem main.tw1587290215689348708 : True := trivial
theorem main.tw13562455689418519750 : True := trivial
theorem main.tw9986019674649008433 : True := trivial
theorem main.tw5102693214775723256 : True := trivial
theorem main.tw5665406974723832613 : True := trivial
theorem main.tw11752208632293872130 : True := trivial
theorem main.tw7298748307773712898 : True := trivial
theorem main.tw13962693860625380366 : True := trivial
theorem main.tw13876859957761632879 : True := trivial
theorem main.tw9957550378297406723 : True := trivial
theorem main.tw18218335207050127959 : True := trivial
theorem main.tw18190005008629794160 : True := trivial
theorem main.tw2629084897520917108 : True := trivial
theorem main.tw7846812961960373227 : True := trivial
theorem main.tw15365013842991253249 : True := trivial
theorem main.tw6418098437765475518 : True := trivial
theorem main.tw6565609875121592624 : True := trivial
theorem main.tw14106445559736802775 : True := trivial
theorem main.tw15109750227778091905 : True := trivial
theorem main.tw14457758005677747962 : True := trivial
theorem main.tw13590572293223372214 : True := trivial
theorem main.tw11221353774195762014 : True := trivial
theorem main.tw4026956272090484662 : True := trivial
theorem main.tw1980160206288974728 : True := trivial
theorem main.tw6511744376749373798 : True := trivial
theorem main.tw3045742163950154196 : True := trivial
theorem main.tw4681395471914393968 : True := trivial
theorem main.tw15017983477296125989 : True := trivial
theorem main.tw2702614204127132176 : True := trivial
theorem main.tw16519101796099990279 : True := trivial
theorem main.tw3779293765908593550 : True := trivial
theorem main.tw18315214858253571532 : True := trivial
theorem main.tw750237026923860459 : True := trivial
theorem main.tw15079240505294077160 : True := trivial
theorem main.tw2354262462317623899 : True := trivial
theorem main.tw13777938177461255882 : True := trivial
theorem main.tw4585930131862741453 : True := trivial
theorem main.tw7436448052282571913 : True := trivial
theorem main.tw979501456738626862 : True := trivial
theorem main.tw5400957986263281647 : True := trivial
theorem main.tw2852251193174398662 : True := trivial
theorem main.tw14793117695081215449 : True := trivial
theorem main.tw5240536507193477226 : True := trivial
theorem main.tw6449824600675878752 : True := trivial
theorem main.tw11003572833241299968 : True := trivial
theorem main.tw10094358506670053839 : True := trivial
theorem main.tw15303317825217679618 : True := trivial
theorem main.tw4475767826048309731 : True := trivial
theorem main.tw18234761425742761375 : True := trivial
theorem main.tw9272984997812220495 : True := trivial
theorem main.tw14061640607465278742 : True := trivial
theorem main.tw2583023086579268501 : True := trivial
theorem main.tw3532412968194664532 : True := trivial
theorem main.tw6183352029847204284 : True := trivial
theorem main.tw16922381011570985944 : True := trivial
theorem main.tw16819838333489098493 : True := trivial
theorem main.tw2496676261509829067 : True := trivial
theorem main.tw17353955331779342651 : True := trivial
theorem main.tw4500915450034043215 : True := trivial
theorem main.tw2110754180369666209 : True := trivial
theorem main.tw2566753976717531306 : True := trivial
theorem main.tw8260724100714396741 : True := trivial
theorem main.tw18442785490491869365 : True := trivial
theorem main.tw13113777628852026922 : True := trivial
theorem main.tw11181722664286889309 : True := trivial
theorem main.tw5401703158475992631 : True := trivial
theorem main.tw15643365686152983790 : True := trivial
theorem main.tw17201416709059790184 : True := trivial
theorem main.tw15514936471743626214 : True := trivial
theorem main.tw11962923498438245051 : True := trivial
theorem main.tw12590340796369385619 : True := trivial
theorem main.tw14465058994725869597 : True := trivial
theorem main.tw10625986939718819309 : True := trivial
theorem main.tw12702744160499308131 : True := trivial
theorem main.tw2821470743931037460 : True := trivial
theorem main.tw221909299271738847 : True := trivial
theorem main.tw7380652910202371479 : True := trivial
theorem main.tw1319676515408343850 : True := trivial
theorem main.tw3507752986376945880 : True := trivial
theorem main.tw16436866848214144513 : True := trivial
theorem main.tw17815151251143906927 : True := trivial
theorem main.tw18431692314602308842 : True := trivial
theorem main.tw15270170921892066516 : True := trivial
theorem main.tw8905464785575363620 : True := trivial
theorem main.tw15467891735981029475 : True := trivial
theorem main.tw9848185148710128376 : True := trivial
theorem main.tw16136984950599521427 : True := trivial
theorem main.tw2524017781993486291 : True := trivial
theorem main.tw1156462466702112376 : True := trivial
theorem main.tw2714283472998740243 : True := trivial
theorem main.tw11092141859048813250 : True := trivial
theorem main.tw14276552872853689276 : True := trivial
theorem main.tw387501639795913443 : True := trivial
theorem main.tw9800874449034162761 : True := trivial
theorem main.tw2724176850512262202 : True := trivial
theorem main.tw10896356407431480244 : True := trivial
theorem main.tw10234815189450012239 : True := trivial
theorem main.tw18287795668848337631 : True := trivial
theorem main.tw8627561154394265716 : True := trivial
theorem main.tw17725498274588495791 : True := trivial
theorem main.tw6508729118710982530 : True := trivial
theorem main.tw9925471051849435655 : True := trivial
theorem main.tw12900284412222446716 : True := trivial
theorem main.tw14009396871252706886 : True := trivial
theorem main.tw11135027115929721415 : True := trivial
theorem main.tw8079908401900000222 : True := trivial
theorem main.tw4900431672193113347 : True := trivial
theorem main.tw7514964652732493775 : True := trivial
theorem main.tw10642606787283503386 : True := trivial
theorem main.tw8834365191522931223 : True := trivial
theorem main.tw15136431859952498927 : True := trivial
theorem main.tw16320729459185622934 : True := trivial
theorem main.tw17737603089517620647 : True := trivial
theorem main.tw6912675738884088206 : True := trivial
theorem main.tw12728813016297866226 : True := trivial
theorem main.tw5517759331935216279 : True := trivial
theorem main.tw453184122279072053 : True := trivial
theorem main.tw10660814488641296832 : True := trivial
theorem main.tw14635473669698735251 : True := trivial
theorem main.tw16452447596832230105 : True := trivial
theorem main.tw4333880214566435006 : True := trivial
theorem main.tw6697339332421208802 : True := trivial
theorem main.tw4458048076830672230 : True := trivial
theorem main.tw10663580350406149668 : True := trivial
theorem main.tw4990475226369331113 : True := trivial
theorem main.tw1556035253650362093 : True := trivial
theorem main.tw1826329307503635854 : True := trivial
theorem main.tw12431561837914552411 : True := trivial
theorem main.tw11595355409239048105 : True := trivial
theorem main.tw1277820614484962519 : True := trivial
theorem main.tw9508770018378322450 : True := trivial
theorem main.tw16689149305811164139 : True := trivial
theorem main.tw765107192605250810 : True := trivial
theorem main.tw2538046985915079169 : True := trivial
theorem main.tw10455743928339290457 : True := trivial
theorem main.tw9483120023164983764 : True := trivial
theorem main.tw15730647564424650218 : True := trivial
theorem main.tw834873547066669988 : True := trivial
theorem main.tw16952715711813285254 : True := trivial
theorem main.tw8663697691656813868 : True := trivial
theorem main.tw9190990891756207365 : True := trivial
theorem main.tw5061512775090418087 : True := trivial
theorem main.tw14788915703135433725 : True := trivial
theorem main.tw17146568849442343683 : True := trivial
theorem main.tw4189750870438640210 : True := trivial
theorem main.tw6655696309031964122 : True := trivial
theorem main.tw2019394398466159022 : True := trivial
theorem main.tw73751810991705359 : True := trivial
theorem main.tw1409966394225722968 : True := trivial
theorem main.tw2433702464844828792 : True := trivial
theorem main.tw7268301785047649679 : True := trivial
theorem main.tw7698036289167662538 : True := trivial
theorem main.tw6557543464795787104 : True := trivial
theorem main.tw223528310411579522 : True := trivial
theorem main.tw17272174723667511238 : True := trivial
theorem main.tw1678875084529416142 : True := trivial
theorem main.tw11987853993630220354 : True := trivial
theorem main.tw10140136200207757160 : True := trivial
theorem main.tw9976160756891316704 : True := trivial
theorem main.tw6361450105264607166 : True := trivial
theorem main.tw3583811862363856187 : True := trivial
theorem main.tw6162249291895867263 : True := trivial
theorem main.tw10707853282979444102 : True := trivial
theorem main.tw6741292078354696603 : True := trivial
theorem main.tw12915833801598196605 : True := trivial
theorem main.tw4297412468100583042 : True := trivial
theorem main.tw126361731641787440 : True := trivial
theorem main.tw1339192626133263789 : True := trivial
theorem main.tw16049902774474827687 : True := trivial
theorem main.tw12872379398031375081 : True := trivial
theorem main.tw16008457594558532635 : True := trivial
theorem main.tw5418533224930618480 : True := trivial
theorem main.tw3491332818749588091 : True := trivial
theorem main.tw1453356044741674121 : True := trivial
theorem main.tw9563168847844234846 : True := trivial
theorem main.tw8478376212529829071 : True := trivial
theorem main.tw11982392923317675503 : True := trivial
theorem main.tw5378808338967829844 : True := trivial
theorem main.tw17403364634526059139 : True := trivial
theorem main.tw6910295442248876197 : True := trivial
theorem main.tw10750994468655217958 : True := trivial
theorem main.tw18332899500509843999 : True := trivial
theorem main.tw7074144079889050967 : True := trivial
theorem main.tw5995161000843957690 : True := trivial
theorem main.tw6785657489111691699 : True := trivial
theorem main.tw4261964983698606537 : True := trivial
theorem main.tw13591255225166038476 : True := trivial
theorem main.tw7751025194823839400 : True := trivial
theorem main.tw1504049600530537962 : True := trivial
theorem main.tw4044139247061151142 : True := trivial
theorem main.tw10450603732522932521 : True := trivial
theorem main.tw6053611964639427726 : True := trivial
theorem main.tw9376575566392132001 : True := trivial
theorem main.tw8652556701797213591 : True := trivial
theorem main.tw14439473939278146460 : True := trivial
theorem main.tw14662554035588321541 : True := trivial
theorem main.tw15465920861327815835 : True := trivial
theorem main.tw17510229520200029679 : True := trivial
theorem main.tw8467378866343419333 : True := trivial
theorem main.tw12298629886278197574 : True := trivial
theorem main.tw16923884221124529275 : True := trivial
theorem main.tw2729793432009153956 : True := trivial
theorem main.tw3466206800631347469 : True := trivial
theorem main.tw2921958311620399285 : True := trivial
theorem main.tw6660377722381337597 : True := trivial
theorem main.tw2921621734765799159 : True := trivial
theorem main.tw11476092923266045095 : True := trivial
theorem main.tw3027586509356016917 : True := trivial
theorem main.tw452746233719593009 : True := trivial
theorem main.tw9681375758050803366 : True := trivial
theorem main.tw52199770228462824 : True := trivial
theorem main.tw5871769198996169552 : True := trivial
theorem main.tw18134284020713443437 : True := trivial
theorem main.tw12941917028564957548 : True := trivial
theorem main.tw961187720498965250 : True := trivial
theorem main.tw7083192437325867461 : True := trivial
theorem main.tw6334894449686545209 : True := trivial
theorem main.tw15342904991969174519 : True := trivial
theorem main.tw7237411587787531456 : True := trivial
theorem main.tw3994622017586750766 : True := trivial
theorem main.tw12927740378394474205 : True := trivial
theorem main.tw9756827057097773860 : True := trivial
theorem main.tw14672674291997333471 : True := trivial
theorem main.tw6222487380544312443 : True := trivial
theorem main.tw9274054859765456524 : True := trivial
theorem main.tw13803360072150633466 : True := trivial
theorem main.tw6385024630547198690 : True := trivial
theorem main.tw17695171507069755227 : True := trivial
theorem main.tw16641786646906312760 : True := trivial
theorem main.tw14539993770535171780 : True := trivial
theorem main.tw1439166485080882 : True := trivial
theorem main.tw104360540948158410 : True := trivial
theorem main.tw14492832472218066102 : True := trivial
theorem main.tw2190695567426971638 : True := trivial
theorem main.tw12361340156312767134 : True := trivial
theorem main.tw9360745474812902239 : True := trivial
theorem main.tw15806524323241146399 : True := trivial
theorem main.tw5797031442667253490 : True := trivial
theorem main.tw33456957511925785 : True := trivial
theorem main.tw6112859857366181021 : True := trivial
theorem main.tw2287757881348798766 : True := trivial
theorem main.tw7647378279178456250 : True := trivial
theorem main.tw1632041292262086317 : True := trivial
theorem main.tw18139410281061755227 : True := trivial
theorem main.tw4156125974679941130 : True := trivial
theorem main.tw14161005256144132680 : True := trivial
theorem main.tw10625486282989778954 : True := trivial
theorem main.tw8440099810896429113 : True := trivial
theorem main.tw11461230924637031220 : True := trivial
theorem main.tw7439787175107056256 : True := trivial
theorem main.tw9069182735580402390 : True := trivial
theorem main.tw14639212616227390028 : True := trivial
theorem main.tw16832360635688203351 : True := trivial
theorem main.tw11815829001073249272 : True := trivial
theorem main.tw10159738436595150677 : True := trivial
theorem main.tw3796207824708393856 : True := trivial
theorem main.tw17236958762192778904 : True := trivial
theorem main.tw656089360051881306 : True := trivial
theorem main.tw13503263706703578961 : True := trivial
theorem main.tw13676971244355772609 : True := trivial
theorem main.tw11646826074482590764 : True := trivial
theorem main.tw12077450504624328385 : True := trivial
theorem main.tw16102231251864390963 : True := trivial
theorem main.tw15485851114877660061 : True := trivial
theorem main.tw11487549891475536569 : True := trivial
theorem main.tw9406782406253462049 : True := trivial
theorem main.tw12205347405646519318 : True := trivial
theorem main.tw14218914174604095658 : True := trivial
theorem main.tw1084114956928915155 : True := trivial
theorem main.tw5507402815253087181 : True := trivial
theorem main.tw18238007617527299592 : True := trivial
theorem main.tw10391951854915411234 : True := trivial
theorem main.tw13402765919934010277 : True := trivial
theorem main.tw1429040668314091153 : True := trivial
theorem main.tw16356685582667847594 : True := trivial
theorem main.tw6519269512792494810 : True := trivial
theorem main.tw13219505800766818778 : True := trivial
theorem main.tw10334261112615635914 : True := trivial
theorem main.tw12518504611687188807 : True := trivial
theorem main.tw9265829497004654079 : True := trivial
theorem main.tw17402982504261768225 : True := trivial
theorem main.tw6075091234017535682 : True := trivial
theorem main.tw17052023290607921161 : True := trivial
theorem main.tw13293747886898857621 : True := trivial
theorem main.tw7113585516715319716 : True := trivial
theorem main.tw5084117380071580128 : True := trivial
theorem main.tw2647654807098235363 : True := trivial
theorem main.tw5243159528196176124 : True := trivial
theorem main.tw4637267157515435788 : True := trivial
theorem main.tw2279707942289718827 : True := trivial
theorem main.tw11785714552879321826 : True := trivial
theorem main.tw5518243967957118194 : True := trivial
theorem main.tw17057053908230417247 : True := trivial
theorem main.tw7153082081811710619 : True := trivial
theorem main.tw11101190512080308003 : True := trivial
theorem main.tw14064073609400967072 : True := trivial
theorem main.tw5585478044538960755 : True := trivial
theorem main.tw9268297945177815525 : True := trivial
theorem main.tw2406621943657119228 : True := trivial
theorem main.tw8118072479153026202 : True := trivial
theorem main.tw12839114828313443825 : True := trivial
theorem main.tw12885673836220544336 : True := trivial
theorem main.tw4038153913678941442 : True := trivial
theorem main.tw6801380410627298636 : True := trivial
theorem main.tw16950194794029067938 : True := trivial
theorem main.tw15984706205718930553 : True := trivial
theorem main.tw17958375852430007124 : True := trivial
theorem main.tw4573282807186111410 : True := trivial
theorem main.tw8729708805864041840 : True := trivial
theorem main.tw11554813239044494598 : True := trivial
theorem main.tw3934531018447913466 : True := trivial
theorem main.tw3343439749351644125 : True := trivial
theorem main.tw18421580907717582127 : True := trivial
theorem main.tw3299218664060906527 : True := trivial
theorem main.tw16629339528299215175 : True := trivial
theorem main.tw16965079339398995527 : True := trivial
theorem main.tw3864431920445960829 : True := trivial
theorem main.tw16193401482309157537 : True := trivial
theorem main.tw8930851030842425676 : True := trivial
theorem main.tw12440202741962587976 : True := trivial
theorem main.tw1099256609624015869 : True := trivial
theorem main.tw5613160597433933154 : True := trivial
theorem main.tw17118054049896295152 : True := trivial
theorem main.tw13667920496262714385 : True := trivial
theorem main.tw2238316416991798583 : True := trivial
theorem main.tw12252054271945606052 : True := trivial
theorem main.tw13642826006792871662 : True := trivial
theorem main.tw18403998269306519403 : True := trivial
theorem main.tw3626430660855392483 : True := trivial
theorem main.tw1677766988990989824 : True := trivial
theorem main.tw4775608329324902142 : True := trivial
theorem main.tw16721930046160240684 : True := trivial
theorem main.tw7761410557224570781 : True := trivial
theorem main.tw16035907590883218939 : True := trivial
theorem main.tw6545385358150927430 : True := trivial
theorem main.tw3829396358689915599 : True := trivial
theorem main.tw16251939892948500945 : True := trivial
theorem main.tw17861207000360874421 : True := trivial
theorem main.tw9730157408454304684 : True := trivial
theorem main.tw9656510801202774680 : True := trivial
theorem main.tw7875838824674609581 : True := trivial
theorem main.tw65644731488775911 : True := trivial
theorem main.tw18244272662864393019 : True := trivial
theorem main.tw4324958949535026087 : True := trivial
theorem main.tw7214478077546791972 : True := trivial
theorem main.tw796156627051863958 : True := trivial
theorem main.tw1615956725737779560 : True := trivial
theorem main.tw16480584520131690045 : True := trivial
theorem main.tw3613476055612923068 : True := trivial
theorem main.tw2195194259037543316 : True := trivial
theorem main.tw5203219222101121401 : True := trivial
theorem main.tw10669944970481658594 : True := trivial
theorem main.tw12483276189755474720 : True := trivial
theorem main.tw15737690656516749961 : True := trivial
theorem main.tw17679725944135375923 : True := trivial
theorem main.tw14909365282108701170 : True := trivial
theorem main.tw4651154628705390771 : True := trivial
theorem main.tw10609540516017602915 : True := trivial
theorem main.tw1850612553970854742 : True := trivial
theorem main.tw832900586485598795 : True := trivial
theorem main.tw2225956059507018244 : True := trivial
theorem main.tw3074828394017264462 : True := trivial
theorem main.tw10363585996791799541 : True := trivial
theorem main.tw5532463470591059822 : True := trivial
theorem main.tw7235775444256392728 : True := trivial
theorem main.tw9840939614602229412 : True := trivial
theorem main.tw7308723440029596264 : True := trivial
theorem main.tw17292155258170135553 : True := trivial
theorem main.tw8466321980469482115 : True := trivial
theorem main.tw15491723280356408159 : True := trivial
theorem main.tw1714950047550659301 : True := trivial
theorem main.tw8748973510418095054 : True := trivial
theorem main.tw6044114016751833949 : True := trivial
theorem main.tw18325589031809861271 : True := trivial
theorem main.tw11261727412033496967 : True := trivial
theorem main.tw3234112476842188716 : True := trivial
theorem main.tw13355152605343272895 : True := trivial
theorem main.tw5240779543111244032 : True := trivial
theorem main.tw6696893160125735727 : True := trivial
theorem main.tw3598851301361773947 : True := trivial
theorem main.tw1390771862084280389 : True := trivial
theorem main.tw14722489848711283861 : True := trivial
theorem main.tw9670510015898674028 : True := trivial
theorem main.tw9682133043923132273 : True := trivial
theorem main.tw17974016328880235120 : True := trivial
theorem main.tw9369988214560726041 : True := trivial
theorem main.tw18284262389922463811 : True := trivial
theorem main.tw6541472054586571296 : True := trivial
theorem main.tw6886502059237256666 : True := trivial
theorem main.tw8211959896082780389 : True := trivial
theorem main.tw14097447854668400296 : True := trivial
theorem main.tw1628013610222277130 : True := trivial
theorem main.tw16008252555379753968 : True := trivial
theorem main.tw12343854547171428336 : True := trivial
theorem main.tw1178595665728414349 : True := trivial
theorem main.tw4544244032028310869 : True := trivial
theorem main.tw9897820754763898449 : True := trivial
theorem main.tw10821422270917381399 : True := trivial
theorem main.tw10665089971535097683 : True := trivial
theorem main.tw4039676971129161736 : True := trivial
theorem main.tw13626721169425172152 : True := trivial
theorem main.tw4839478117068044826 : True := trivial
theorem main.tw9302470337196694018 : True := trivial
theorem main.tw8947760058931562597 : True := trivial
theorem main.tw10298723112805639129 : True := trivial
theorem main.tw14646587721710459877 : True := trivial
theorem main.tw1306636233014830658 : True := trivial
theorem main.tw5436791530062809996 : True := trivial
theorem main.tw7411558596216406370 : True := trivial
theorem main.tw3905226178654972811 : True := trivial
theorem main.tw16361134009908129286 : True := trivial
theorem main.tw12623159325031504133 : True := trivial
theorem main.tw13350764725976880583 : True := trivial
theorem main.tw17880189553859617996 : True := trivial
theorem main.tw10177057350305019805 : True := trivial
theorem main.tw13224007501803129859 : True := trivial
theorem main.tw2759098988195820126 : True := trivial
theorem main.tw17091655785135471103 : True := trivial
theorem main.tw6674386428176565332 : True := trivial
theorem main.tw7186131708394509389 : True := trivial
theorem main.tw15624239662980076321 : True := trivial
theorem main.tw3960113756560652017 : True := trivial
theorem main.tw8207831470162742035 : True := trivial
theorem main.tw15734660467963936456 : True := trivial
theorem main.tw12670839924663504800 : True := trivial
theorem main.tw3549514262204291990 : True := trivial
theorem main.tw4072190877284726289 : True := trivial
theorem main.tw341453280667917650 : True := trivial
theorem main.tw9561784451562097942 : True := trivial
theorem main.tw10877679251791092727 : True := trivial
theorem main.tw3454311308915712629 : True := trivial
theorem main.tw12057704586751987240 : True := trivial
theorem main.tw10199874654664476236 : True := trivial
theorem main.tw9512817274939609580 : True := trivial
theorem main.tw1270039299266317192 : True := trivial
theorem main.tw302440914744352476 : True := trivial
theorem main.tw13838900630717943254 : True := trivial
theorem main.tw14771111431291430275 : True := trivial
theorem main.tw66260789543402106 : True := trivial
theorem main.tw14080665800827857628 : True := trivial
theorem main.tw17767330081159143506 : True := trivial
theorem main.tw9808303207383738048 : True := trivial
theorem main.tw645136716886899192 : True := trivial
theorem main.tw2744014450722944760 : True := trivial
theorem main.tw11001617756164336837 : True := trivial
theorem main.tw1615045767204293396 : True := trivial
theorem main.tw9417822746687237092 : True := trivial
theorem main.tw14060465935940456498 : True := trivial
theorem main.tw15410482203810522393 : True := trivial
theorem main.tw6596593509180878263 : True := trivial
set_option Elab.async true in
theorem main : PySem.Challenge.rw_il0086_01.Holds := by
  (w_on; o_law; k_head; (case hw => w_witness2))
  have getsep_ok : ∀ w, GetSepSpec Mine.main.heap_1_39 Mine.main.view_1_40 w := by
    intro w
    unfold GetSepSpec CallOk
    k_fill
    intro x t mean mg mb dp un gd cn cs a ccd cl outer A₀ base h₀ L m s Q E B F X N T hk hd hu hpre hret
    refine wpAny_call ?_
    k_dflt (refine' plainG ?k1v1 ?k2v1 ?k3v1 ?k4v1 ?k5v1 ?kAv1 ?kFv1 ?kKv1 ?k6v1 ?k7v1 ?k8v1 ?k9v1 ?kBv1 ?_ ?c2v1 ?c3v1 ?c4v1 ?c5v1; (case kAv1 => exact rfl); (case kFv1 => exact rfl); (case kKv1 => assumption); (case k1v1 => k_asm); (case k2v1 => k_asm); (case k3v1 => k_asm); (case k4v1 => k_asm); (case k5v1 => k_asm); (case k6v1 => k_is); (case k7v1 => k_is); (case k8v1 => (first | exact room2 (by assumption) rfl | exact room1 (by assumption) rfl | exact room0 (by assumption) | exact blt rfl | ktr_room)); (case k9v1 => exact BindsTo.of_eq rfl); (case kBv1 => exact locs rfl); (case c5v1 => decide); (case c2v1 => exact rfl); (case c3v1 => exact rfl); (case c4v1 => exact rfl); k_whole; intro g' L' h' FG' F' N' B' X' T' hg'; (try dsimp only); (try k_fold))
    (repeat' (first | (k_unfold; (try dsimp only)) | (k_end; wrow_close) | ((with_reducible show wpAny _ _ (execs _ _) _ _ _); k_fold) | walk1 | (dsimp only; first | walk1) | ((simp only [List.cons_append, List.nil_append]); walk1) | (leave1; try dsimp only) | fail "no step"))
    exact hret _ _ _ _ ⟨⟨_, rfl⟩, rfl⟩ (by assumption) (News.sub (by assumption) (fun _ h => nomatch h)) (by assumption)
  have fspath_ok : ∀ w, FspathSpec Mine.main.heap_1_39 Mine.main.view_1_40 w := by
    intro w
    clear getsep_ok
    unfold FspathSpec CallOk
    k_fill
    intro x t mean mg mb dp un gd cn cs a ccd cl outer A₀ base h₀ L m s Q E B F X N T hk hd hu hpre hret
    refine wpAny_call ?_
    k_dflt (refine' plainG ?k1v2 ?k2v2 ?k3v2 ?k4v2 ?k5v2 ?kAv2 ?kFv2 ?kKv2 ?k6v2 ?k7v2 ?k8v2 ?k9v2 ?kBv2 ?_ ?c2v2 ?c3v2 ?c4v2 ?c5v2; (case kAv2 => exact rfl); (case kFv2 => exact rfl); (case kKv2 => assumption); (case k1v2 => k_asm); (case k2v2 => k_asm); (case k3v2 => k_asm); (case k4v2 => k_asm); (case k5v2 => k_asm); (case k6v2 => k_is); (case k7v2 => k_is); (case k8v2 => (first | exact room2 (by assumption) rfl | exact room1 (by assumption) rfl | exact room0 (by assumption) | exact blt rfl | ktr_room)); (case k9v2 => exact BindsTo.of_eq rfl); (case kBv2 => exact locs rfl); (case c5v2 => decide); (case c2v2 => exact rfl); (case c3v2 => exact rfl); (case c4v2 => exact rfl); k_whole; intro g' L' h' FG' F' N' B' X' T' hg'; (try dsimp only); (try k_fold))
    (repeat' (first | (k_unfold; (try dsimp only)) | (k_end; wrow_close) | ((with_reducible show wpAny _ _ (execs _ _) _ _ _); k_fold) | ((with_reducible show wpAny _ _ (call (Value.builtin "issubclass") _ _) _ _ _); (k_here; (show wpAny _ _ (call (Value.builtin _) [Value.type _, Value.ref _]) _ _ _); k_dflt (refine' issub_tup ?k1u1 ?_; (case k1u1 => exact News.get (by k_asm) (by k_mem)); k_whole); intro _)) | walk1 | (dsimp only; first | ((with_reducible show wpAny _ _ (call (Value.builtin "issubclass") _ _) _ _ _); (k_here; (show wpAny _ _ (call (Value.builtin _) [Value.type _, Value.ref _]) _ _ _); k_dflt (refine' issub_tup ?k1u2 ?_; (case k1u2 => exact News.get (by k_asm) (by k_mem)); k_whole); intro _)) | walk1) | ((simp only [List.cons_append, List.nil_append]); walk1) | (leave1; try dsimp only) | fail "no step"))
    exact hret _ _ _ _ ⟨⟨0, rfl⟩, rfl⟩ (by assumption) (News.sub (by assumption) (fun _ h => nomatch h)) (by assumption)
  have dirname_ok : ∀ w, DirSpec Mine.main.heap_1_39 Mine.main.view_1_40 w := by
    intro w
    have S0 : FspathSpec Mine.main.heap_1_39 Mine.main.view_1_40 w := fspath_ok w
    have S1 : GetSepSpec Mine.main.heap_1_39 Mine.main.view_1_40 w := getsep_ok w
    clear fspath_ok getsep_ok
    unfold DirSpec CallOk
    k_fill
    intro x t hx mean mg mb dp un gd cn cs a ccd cl outer A₀ base h₀ L m s Q E B F X N T hk hd hu hpre hret
    refine wpAny_call ?_
    k_dflt (refine' plainG ?k1v3 ?k2v3 ?k3v3 ?k4v3 ?k5v3 ?kAv3 ?kFv3 ?kKv3 ?k6v3 ?k7v3 ?k8v3 ?k9v3 ?kBv3 ?_ ?c2v3 ?c3v3 ?c4v3 ?c5v3; (case kAv3 => exact rfl); (case kFv3 => exact rfl); (case kKv3 => assumption); (case k1v3 => k_asm); (case k2v3 => k_asm); (case k3v3 => k_asm); (case k4v3 => k_asm); (case k5v3 => k_asm); (case k6v3 => k_is); (case k7v3 => k_is); (case k8v3 => (first | exact room2 (by assumption) rfl | exact room1 (by assumption) rfl | exact room0 (by assumption) | exact blt rfl | ktr_room)); (case k9v3 => exact BindsTo.of_eq rfl); (case kBv3 => exact locs rfl); (case c5v3 => decide); (case c2v3 => exact rfl); (case c3v3 => exact rfl); (case c4v3 => exact rfl); k_whole; intro g' L' h' FG' F' N' B' X' T' hg'; (try dsimp only); (try k_fold))
    (repeat' (first | (k_unfold; (try dsimp only)) | (k_end; wrow_close) | ((with_reducible show wpAny _ _ (execs _ _) _ _ _); k_fold) | (k_here; (with_reducible show wpAny _ _ (call (Value.ref 308) _ _) _ _ _); (try dsimp only); k_dflt (refine' CallOk.use1 ((show GetSepSpec _ _ _ by assumption) _ _) ?k1u3 ?k2u3 ?k3u3 ?k4u3 ?k5u3 ?kKu3 ?kdu3 ?kuu3 ?kpu3 ?_; (case k1u3 => k_asm); (case k2u3 => k_asm); (case k3u3 => k_asm); (case k4u3 => k_asm); (case k5u3 => k_asm); (case kKu3 => first | exact rfl | assumption); (case kdu3 => (first | exact room2 (by assumption) rfl | exact room1 (by assumption) rfl | exact room0 (by assumption) | exact blt rfl | ktr_room)); (case kuu3 => (first | exact room2 (by assumption) rfl | exact room1 (by assumption) rfl | exact room0 (by assumption) | exact blt rfl | ktr_units)); (case kpu3 => exact trivial)); intro zt9 zh9 ztk9 zF9 zN9 zst9; (try dsimp only); (try k_sweep)) | (k_here; (with_reducible show wpAny _ _ (call (Value.ref 294) _ _) _ _ _); (try dsimp only); k_dflt (refine' CallOk.use1 ((show FspathSpec _ _ _ by assumption) _ _) ?k1u4 ?k2u4 ?k3u4 ?k4u4 ?k5u4 ?kKu4 ?kdu4 ?kuu4 ?kpu4 ?_; (case k1u4 => k_asm); (case k2u4 => k_asm); (case k3u4 => k_asm); (case k4u4 => k_asm); (case k5u4 => k_asm); (case kKu4 => first | exact rfl | assumption); (case kdu4 => (first | exact room2 (by assumption) rfl | exact room1 (by assumption) rfl | exact room0 (by assumption) | exact blt rfl | ktr_room)); (case kuu4 => (first | exact room2 (by assumption) rfl | exact room1 (by assumption) rfl | exact room0 (by assumption) | exact blt rfl | ktr_units)); (case kpu4 => exact trivial)); intro zt9 zh9 ztk9 zF9 zN9 zst9; (try dsimp only); (try k_sweep)) | walk1 | (dsimp only; first | (k_here; (with_reducible show wpAny _ _ (call (Value.ref 308) _ _) _ _ _); (try dsimp only); k_dflt (refine' CallOk.use1 ((show GetSepSpec _ _ _ by assumption) _ _) ?k1u5 ?k2u5 ?k3u5 ?k4u5 ?k5u5 ?kKu5 ?kdu5 ?kuu5 ?kpu5 ?_; (case k1u5 => k_asm); (case k2u5 => k_asm); (case k3u5 => k_asm); (case k4u5 => k_asm); (case k5u5 => k_asm); (case kKu5 => first | exact rfl | assumption); (case kdu5 => (first | exact room2 (by assumption) rfl | exact room1 (by assumption) rfl | exact room0 (by assumption) | exact blt rfl | ktr_room)); (case kuu5 => (first | exact room2 (by assumption) rfl | exact room1 (by assumption) rfl | exact room0 (by assumption) | exact blt rfl | ktr_units)); (case kpu5 => exact trivial)); intro zt9 zh9 ztk9 zF9 zN9 zst9; (try dsimp only); (try k_sweep)) | (k_here; (with_reducible show wpAny _ _ (call (Value.ref 294) _ _) _ _ _); (try dsimp only); k_dflt (refine' CallOk.use1 ((show FspathSpec _ _ _ by assumption) _ _) ?k1u6 ?k2u6 ?k3u6 ?k4u6 ?k5u6 ?kKu6 ?kdu6 ?kuu6 ?kpu6 ?_; (case k1u6 => k_asm); (case k2u6 => k_asm); (case k3u6 => k_asm); (case k4u6 => k_asm); (case k5u6 => k_asm); (case kKu6 => first | exact rfl | assumption); (case kdu6 => (first | exact room2 (by assumption) rfl | exact room1 (by assumption) rfl | exact room0 (by assumption) | exact blt rfl | ktr_room)); (case kuu6 => (first | exact room2 (by assumption) rfl | exact room1 (by assumption) rfl | exact room0 (by assumption) | exact blt rfl | ktr_units)); (case kpu6 => exact trivial)); intro zt9 zh9 ztk9 zF9 zN9 zst9; (try dsimp only); (try k_sweep)) | walk1) | ((simp only [List.cons_append, List.nil_append]); walk1) | (leave1; try dsimp only) | fail "no step"))
    all_goals first | (have e := dirS_eq1 (x := x) (by assumption) (by assumption); exact hret _ _ _ _ ⟨⟨_, congrArg (fun z => Value.str z _) e.symm⟩, rfl⟩ (by assumption) (News.sub (by assumption) (fun _ h => nomatch h)) (by assumption)) | (have e := dirS_eq2 (x := x) (by assumption); exact hret _ _ _ _ ⟨⟨_, congrArg (fun z => Value.str z _) e.symm⟩, rfl⟩ (by assumption) (News.sub (by assumption) (fun _ h => nomatch h)) (by assumption)) | (have e := dirS_eq3 (x := x) (by assumption); exact hret _ _ _ _ ⟨⟨_, congrArg (fun z => Value.str z _) e.symm⟩, rfl⟩ (by assumption) (News.sub (by assumption) (fun _ h => nomatch h)) (by assumption))
  have join_ok : ∀ w, JoinSpec Mine.main.heap_1_39 Mine.main.view_1_40 w := by
    intro w
    have S0 : FspathSpec Mine.main.heap_1_39 Mine.main.view_1_40 w := fspath_ok w
    have S1 : GetSepSpec Mine.main.heap_1_39 Mine.main.view_1_40 w := getsep_ok w
    clear dirname_ok fspath_ok getsep_ok
    unfold JoinSpec CallOk
    k_fill
    intro x y t t' hx hy hx1 hy1 mean mg mb dp un gd cn cs a ccd cl outer A₀ base h₀ L m s Q E B F X N T hk hd hu hpre hret
    refine wpAny_call ?_
    k_dflt (refine' restG ?k1v4 ?k2v4 ?k3v4 ?k4v4 ?k5v4 ?kAv4 ?kFv4 ?kKv4 ?k6v4 ?k7v4 ?k8v4 ?kPv4 ?kLv4 ?kGv4 ?kBv4 ?_ ?c2v4 ?c3v4 ?c4v4 ?c5v4; (case kAv4 => exact rfl); (case kFv4 => exact rfl); (case kKv4 => assumption); (case k1v4 => k_asm); (case k2v4 => k_asm); (case k3v4 => k_asm); (case k4v4 => k_asm); (case k5v4 => k_asm); (case k6v4 => k_is); (case k7v4 => k_is); (case k8v4 => (first | exact room2 (by assumption) rfl | exact room1 (by assumption) rfl | exact room0 (by assumption) | exact blt rfl | ktr_room)); (case kPv4 => exact rfl); (case kLv4 => exact rfl); (case kGv4 => exact fun _ => rfl); (case kBv4 => exact fun _ => locs rfl); (case c5v4 => decide); (case c2v4 => exact rfl); (case c3v4 => exact rfl); (case c4v4 => exact rfl); k_whole; intro D' g' L' h' l1 FG' F' N' B' X' T' hg'; (try k_lt l1); (try dsimp only); (try k_fold))
    (repeat' (first | (k_unfold; (try dsimp only)) | (k_end; wrow_close) | ((with_reducible show wpAny _ _ (execs _ _) _ _ _); k_fold) | (k_here; (with_reducible show wpAny _ _ (call (Value.ref 308) _ _) _ _ _); (try dsimp only); k_dflt (refine' CallOk.use1 ((show GetSepSpec _ _ _ by assumption) _ _) ?k1u7 ?k2u7 ?k3u7 ?k4u7 ?k5u7 ?kKu7 ?kdu7 ?kuu7 ?kpu7 ?_; (case k1u7 => k_asm); (case k2u7 => k_asm); (case k3u7 => k_asm); (case k4u7 => k_asm); (case k5u7 => k_asm); (case kKu7 => first | exact rfl | assumption); (case kdu7 => (first | exact room2 (by assumption) rfl | exact room1 (by assumption) rfl | exact room0 (by assumption) | exact blt rfl | ktr_room)); (case kuu7 => (first | exact room2 (by assumption) rfl | exact room1 (by assumption) rfl | exact room0 (by assumption) | exact blt rfl | ktr_units)); (case kpu7 => exact trivial)); intro zt9 zh9 ztk9 zF9 zN9 zst9; (try dsimp only); (try k_sweep)) | (k_here; (with_reducible show wpAny _ _ (call (Value.ref 294) _ _) _ _ _); (try dsimp only); k_dflt (refine' CallOk.use1 ((show FspathSpec _ _ _ by assumption) _ _) ?k1u8 ?k2u8 ?k3u8 ?k4u8 ?k5u8 ?kKu8 ?kdu8 ?kuu8 ?kpu8 ?_; (case k1u8 => k_asm); (case k2u8 => k_asm); (case k3u8 => k_asm); (case k4u8 => k_asm); (case k5u8 => k_asm); (case kKu8 => first | exact rfl | assumption); (case kdu8 => (first | exact room2 (by assumption) rfl | exact room1 (by assumption) rfl | exact room0 (by assumption) | exact blt rfl | ktr_room)); (case kuu8 => (first | exact room2 (by assumption) rfl | exact room1 (by assumption) rfl | exact room0 (by assumption) | exact blt rfl | ktr_units)); (case kpu8 => exact trivial)); intro zt9 zh9 ztk9 zF9 zN9 zst9; (try dsimp only); (try k_sweep)) | walk1 | (dsimp only; first | (k_here; (with_reducible show wpAny _ _ (call (Value.ref 308) _ _) _ _ _); (try dsimp only); k_dflt (refine' CallOk.use1 ((show GetSepSpec _ _ _ by assumption) _ _) ?k1u9 ?k2u9 ?k3u9 ?k4u9 ?k5u9 ?kKu9 ?kdu9 ?kuu9 ?kpu9 ?_; (case k1u9 => k_asm); (case k2u9 => k_asm); (case k3u9 => k_asm); (case k4u9 => k_asm); (case k5u9 => k_asm); (case kKu9 => first | exact rfl | assumption); (case kdu9 => (first | exact room2 (by assumption) rfl | exact room1 (by assumption) rfl | exact room0 (by assumption) | exact blt rfl | ktr_room)); (case kuu9 => (first | exact room2 (by assumption) rfl | exact room1 (by assumption) rfl | exact room0 (by assumption) | exact blt rfl | ktr_units)); (case kpu9 => exact trivial)); intro zt9 zh9 ztk9 zF9 zN9 zst9; (try dsimp only); (try k_sweep)) | (k_here; (with_reducible show wpAny _ _ (call (Value.ref 294) _ _) _ _ _); (try dsimp only); k_dflt (refine' CallOk.use1 ((show FspathSpec _ _ _ by assumption) _ _) ?k1u10 ?k2u10 ?k3u10 ?k4u10 ?k5u10 ?kKu10 ?kdu10 ?kuu10 ?kpu10 ?_; (case k1u10 => k_asm); (case k2u10 => k_asm); (case k3u10 => k_asm); (case k4u10 => k_asm); (case k5u10 => k_asm); (case kKu10 => first | exact rfl | assumption); (case kdu10 => (first | exact room2 (by assumption) rfl | exact room1 (by assumption) rfl | exact room0 (by assumption) | exact blt rfl | ktr_room)); (case kuu10 => (first | exact room2 (by assumption) rfl | exact room1 (by assumption) rfl | exact room0 (by assumption) | exact blt rfl | ktr_units)); (case kpu10 => exact trivial)); intro zt9 zh9 ztk9 zF9 zN9 zst9; (try dsimp only); (try k_sweep)) | walk1) | ((simp only [List.cons_append, List.nil_append]); walk1) | (leave1; try dsimp only) | fail "no step"))
    all_goals first | exact hret _ _ _ _ ⟨⟨_, congrArg (fun z => Value.str z _) (joinS_eq1 (by assumption)).symm⟩, rfl⟩ (by assumption) (News.sub (by assumption) (fun _ h => nomatch h)) (by assumption) | exact hret _ _ _ _ ⟨⟨_, congrArg (fun z => Value.str z _) (joinS_eq2 (by assumption)).symm⟩, rfl⟩ (by assumption) (News.sub (by assumption) (fun _ h => nomatch h)) (by assumption) | exact (Bool.false_ne_true (hy1.symm.trans (by assumption))).elim | (exfalso; omega)
  have sd_ok : ∀ w, SdSpec Mine.main.heap_1_39 Mine.main.view_1_40 w := by
    intro w
    clear join_ok dirname_ok fspath_ok getsep_ok
    unfold SdSpec CallOk
    k_fill
    intro l its n start pos t1 t2 hl hpos mean mg mb dp un gd cn cs a ccd cl outer A₀ base h₀ L m s Q E B F X N T hk hd hu hpre hret
    refine wpAny_call ?_
    k_dflt (refine' plainG ?k1v5 ?k2v5 ?k3v5 ?k4v5 ?k5v5 ?kAv5 ?kFv5 ?kKv5 ?k6v5 ?k7v5 ?k8v5 ?k9v5 ?kBv5 ?_ ?c2v5 ?c3v5 ?c4v5 ?c5v5; (case kAv5 => exact rfl); (case kFv5 => exact rfl); (case kKv5 => assumption); (case k1v5 => k_asm); (case k2v5 => k_asm); (case k3v5 => k_asm); (case k4v5 => k_asm); (case k5v5 => k_asm); (case k6v5 => k_is); (case k7v5 => k_is); (case k8v5 => (first | exact room2 (by assumption) rfl | exact room1 (by assumption) rfl | exact room0 (by assumption) | exact blt rfl | ktr_room)); (case k9v5 => exact BindsTo.of_eq rfl); (case kBv5 => exact locs rfl); (case c5v5 => decide); (case c2v5 => exact rfl); (case c3v5 => exact rfl); (case c4v5 => exact rfl); k_whole; intro g' L' h' FG' F' N' B' X' T' hg'; (try dsimp only); (try k_fold))
    (repeat' (first | (k_unfold; (try dsimp only)) | (k_end; wrow_close) | ((with_reducible show wpAny _ _ (execs _ _) _ _ _); k_fold) | (k_here; (with_reducible show wpAny _ _ (subscriptTail _ _ (Value.ref _) (Value.int (Nat.cast _) _)) _ _ _); k_dflt (refine' r_getN ?k1u11 ?k2u11 ?k4u11 ?k5u11 ?_ ?k6u11; (case k1u11 => k_asm); (case k2u11 => k_mem); (case k4u11 => (first | assumption | exact Nat.le_trans (by assumption) (by decide) | exact Nat.lt_of_le_of_lt (by assumption) (by decide) | omega)); (case k5u11 => (first | assumption | exact Nat.le_trans (by assumption) (by decide) | exact Nat.lt_of_le_of_lt (by assumption) (by decide) | omega)); (case k6u11 => with_unfolding_all rfl); k_whole)) | ((with_reducible show wpAny _ _ (exec (Stmt.While _ _ _ _) _) _ _ _); (refine stop_here ?_)) | walk1 | (dsimp only; first | (k_here; (with_reducible show wpAny _ _ (subscriptTail _ _ (Value.ref _) (Value.int (Nat.cast _) _)) _ _ _); k_dflt (refine' r_getN ?k1u13 ?k2u13 ?k4u13 ?k5u13 ?_ ?k6u13; (case k1u13 => k_asm); (case k2u13 => k_mem); (case k4u13 => (first | assumption | exact Nat.le_trans (by assumption) (by decide) | exact Nat.lt_of_le_of_lt (by assumption) (by decide) | omega)); (case k5u13 => (first | assumption | exact Nat.le_trans (by assumption) (by decide) | exact Nat.lt_of_le_of_lt (by assumption) (by decide) | omega)); (case k6u13 => with_unfolding_all rfl); k_whole)) | ((with_reducible show wpAny _ _ (exec (Stmt.While _ _ _ _) _) _ _ _); (refine stop_here ?_)) | walk1) | ((simp only [List.cons_append, List.nil_append]); walk1) | (leave1; try dsimp only) | fail "no step"))
    have hI0 : ItemsAt g' its := ItemsAt.down hpre hg' N list_ne_tuple
    have hx0 : PairAt g' (its.getD pos it0).1 (its.getD pos it0).2 := hI0.getD hpos
    have hxm : its.getD pos it0 ∈ its := getD_mem hpos
    have F1 := (by assumption : Fr g' L' _ _)
    have N1 := (by assumption : News g' L' _ _)
    generalize its.getD pos it0 = x at *
    refine Stopped.mk ?_
    refine while_cut (fun st => Ex6 fun (h : Heap) (tk : Nat) (m' : Str → Option Value) (cur : List It) (pos' : Nat) (t' : Tok) => And9 (st = { s with heap := h, toks := tk }) (Fr g' L' h m') (News g' L' h [(l, listOf (valsI cur).toArray n)]) (m' (Str.ofString "heap") = some (.ref l)) (m' (Str.ofString "pos") = some (.int pos' t')) (m' (Str.ofString "newitem") = some (.ref x.1)) (cur.length = its.length) (pos' < cur.length) (cur.set pos' x = sd start x pos pos its))
      (fun k st => Ex7 fun (h : Heap) (tk : Nat) (m' : Str → Option Value) (cur : List It) (pos' : Nat) (f : Nat) (t' : Tok) => And13 (st = { s with heap := h, toks := tk }) (Fr g' L' h m') (News g' L' h [(l, listOf (valsI cur).toArray n)]) (m' (Str.ofString "heap") = some (.ref l)) (m' (Str.ofString "startpos") = some (.int start t1)) (m' (Str.ofString "pos") = some (.int pos' t')) (m' (Str.ofString "newitem") = some (.ref x.1)) (cur.length = its.length) (pos' < cur.length) ((∀ q ∈ cur, q ∈ its)) (pos' ≤ f) (sd start x f pos' cur = sd start x pos pos its) (k = pos')) pos ?startv5 ?turnv5 ?restv5
    case startv5 => exact ⟨_, _, _, its, pos, pos, t2, rfl, F1, N1, rfl, rfl, rfl, rfl, rfl, hpos, fun q h => h, Nat.le_refl _, rfl, rfl⟩
    case turnv5 =>
      clear F1 N1
      intro k st HH2
      (try ((with_reducible show wpAny _ _ _ _ _ _); k_fold))
      obtain ⟨h, tk, m', cur, pos', f, t', rfl, F1, N1, m1, m2, m3, m4, hc1, hc2, hc3, hf, hsd, rfl⟩ := HH2
      have hIc : ItemsAt g' cur := fun q hq => hI0 q (hc3 q hq)
      have hlen : (cur.set k (cur.getD ((k - 1) / 2) it0)).length = cur.length := List.length_set ..
      (repeat' (first | (k_unfold; (try dsimp only)) | (k_end; wrow_close) | ((with_reducible show wpAny _ _ (execs _ _) _ _ _); k_fold) | (k_here; (with_reducible show wpAny _ _ (setItem (Value.ref _) (Value.int (Nat.cast _) _) (Value.ref (Prod.fst _))) _ _ _); k_dflt (refine' r_setN rfl ?k1u15 ?k2u15 ?k3u15 ?k4u15 ?k5u15 ?_; (case k1u15 => k_asm); (case k2u15 => k_asm); (case k3u15 => (first | assumption | exact Nat.le_trans (by assumption) (by decide) | exact Nat.lt_of_le_of_lt (by assumption) (by decide) | omega)); (case k4u15 => (first | assumption | exact Nat.le_trans (by assumption) (by decide) | exact Nat.lt_of_le_of_lt (by assumption) (by decide) | omega)); (case k5u15 => k_upd); k_whole); intro zh' zF' zN') | ((with_reducible show wpAny _ _ (binaryOp Operator.RShift (Value.int _ _) (Value.int _ _)) _ _ _); (k_here; k_dflt (refine' r_shrP ?k1u16 ?_; (case k1u16 => (first | assumption | exact Nat.le_trans (by assumption) (by decide) | exact Nat.lt_of_le_of_lt (by assumption) (by decide) | omega)); k_whole); intro zt9 zk9)) | ((with_reducible show wpAny _ _ (compareOp CmpOp.Lt (Value.ref _) (Value.ref _)) _ _ _); (k_here; (with_reducible show wpAny _ _ (compareOp CmpOp.Lt (Value.ref _) (Value.ref _)) _ _ _); k_dflt (refine' tup_lt ?k1u17 ?k2u17 ?k3u17 ?_; (case k1u17 => (first | exact room2 (by assumption) rfl | exact room1 (by assumption) rfl | exact room0 (by assumption) | exact blt rfl | ktr_units)); (case k2u17 => (first | exact PairAt.keeps (by assumption) (Fr.keep (by assumption)) | exact PairAt.keeps (ItemsAt.getD (by assumption) (by (first | assumption | exact Nat.le_trans (by assumption) (by decide) | exact Nat.lt_of_le_of_lt (by assumption) (by decide) | omega))) (Fr.keep (by assumption)))); (case k3u17 => (first | exact PairAt.keeps (by assumption) (Fr.keep (by assumption)) | exact PairAt.keeps (ItemsAt.getD (by assumption) (by (first | assumption | exact Nat.le_trans (by assumption) (by decide) | exact Nat.lt_of_le_of_lt (by assumption) (by decide) | omega))) (Fr.keep (by assumption)))); k_whole))) | (k_here; (with_reducible show wpAny _ _ (subscriptTail _ _ (Value.ref _) (Value.int (Nat.cast _) _)) _ _ _); k_dflt (refine' r_getN ?k1u18 ?k2u18 ?k4u18 ?k5u18 ?_ ?k6u18; (case k1u18 => k_asm); (case k2u18 => k_mem); (case k4u18 => (first | assumption | exact Nat.le_trans (by assumption) (by decide) | exact Nat.lt_of_le_of_lt (by assumption) (by decide) | omega)); (case k5u18 => (first | assumption | exact Nat.le_trans (by assumption) (by decide) | exact Nat.lt_of_le_of_lt (by assumption) (by decide) | omega)); (case k6u18 => with_unfolding_all rfl); k_whole)) | ((with_reducible show wpAny _ _ (eval (PySem.Expr.Name _ _) _) _ _ _); (k_here; k_dflt (refine' PyProof.Rows.ld ?k1u19 ?k2u19 ?_; (case k1u19 => k_asm); (case k2u19 => first | with_reducible assumption | assumption); k_whole))) | walk1 | (dsimp only; first | (k_here; (with_reducible show wpAny _ _ (setItem (Value.ref _) (Value.int (Nat.cast _) _) (Value.ref (Prod.fst _))) _ _ _); k_dflt (refine' r_setN rfl ?k1u20 ?k2u20 ?k3u20 ?k4u20 ?k5u20 ?_; (case k1u20 => k_asm); (case k2u20 => k_asm); (case k3u20 => (first | assumption | exact Nat.le_trans (by assumption) (by decide) | exact Nat.lt_of_le_of_lt (by assumption) (by decide) | omega)); (case k4u20 => (first | assumption | exact Nat.le_trans (by assumption) (by decide) | exact Nat.lt_of_le_of_lt (by assumption) (by decide) | omega)); (case k5u20 => k_upd); k_whole); intro zh' zF' zN') | ((with_reducible show wpAny _ _ (binaryOp Operator.RShift (Value.int _ _) (Value.int _ _)) _ _ _); (k_here; k_dflt (refine' r_shrP ?k1u21 ?_; (case k1u21 => (first | assumption | exact Nat.le_trans (by assumption) (by decide) | exact Nat.lt_of_le_of_lt (by assumption) (by decide) | omega)); k_whole); intro zt9 zk9)) | ((with_reducible show wpAny _ _ (compareOp CmpOp.Lt (Value.ref _) (Value.ref _)) _ _ _); (k_here; (with_reducible show wpAny _ _ (compareOp CmpOp.Lt (Value.ref _) (Value.ref _)) _ _ _); k_dflt (refine' tup_lt ?k1u22 ?k2u22 ?k3u22 ?_; (case k1u22 => (first | exact room2 (by assumption) rfl | exact room1 (by assumption) rfl | exact room0 (by assumption) | exact blt rfl | ktr_units)); (case k2u22 => (first | exact PairAt.keeps (by assumption) (Fr.keep (by assumption)) | exact PairAt.keeps (ItemsAt.getD (by assumption) (by (first | assumption | exact Nat.le_trans (by assumption) (by decide) | exact Nat.lt_of_le_of_lt (by assumption) (by decide) | omega))) (Fr.keep (by assumption)))); (case k3u22 => (first | exact PairAt.keeps (by assumption) (Fr.keep (by assumption)) | exact PairAt.keeps (ItemsAt.getD (by assumption) (by (first | assumption | exact Nat.le_trans (by assumption) (by decide) | exact Nat.lt_of_le_of_lt (by assumption) (by decide) | omega))) (Fr.keep (by assumption)))); k_whole))) | (k_here; (with_reducible show wpAny _ _ (subscriptTail _ _ (Value.ref _) (Value.int (Nat.cast _) _)) _ _ _); k_dflt (refine' r_getN ?k1u23 ?k2u23 ?k4u23 ?k5u23 ?_ ?k6u23; (case k1u23 => k_asm); (case k2u23 => k_mem); (case k4u23 => (first | assumption | exact Nat.le_trans (by assumption) (by decide) | exact Nat.lt_of_le_of_lt (by assumption) (by decide) | omega)); (case k5u23 => (first | assumption | exact Nat.le_trans (by assumption) (by decide) | exact Nat.lt_of_le_of_lt (by assumption) (by decide) | omega)); (case k6u23 => with_unfolding_all rfl); k_whole)) | ((with_reducible show wpAny _ _ (eval (PySem.Expr.Name _ _) _) _ _ _); (k_here; k_dflt (refine' PyProof.Rows.ld ?k1u24 ?k2u24 ?_; (case k1u24 => k_asm); (case k2u24 => first | with_reducible assumption | assumption); k_whole))) | walk1) | ((simp only [List.cons_append, List.nil_append]); walk1) | (leave1; try dsimp only) | fail "no step"))
      all_goals (try dsimp only)
      all_goals refine Stopped.mk ?_
      all_goals have F2 := (by assumption : Fr g' L' _ _)
      all_goals have N2 := (by assumption : News g' L' _ _)
      · obtain ⟨f', rfl⟩ : ∃ f', f = f' + 1 := ⟨f - 1, by omega⟩
        refine ⟨(k - 1) / 2, by omega, _, _, _, _, _, f', _, rfl, F2, N2, m1, m2, rfl, m4, by rw [hlen]; exact hc1, by omega, ?_, by omega, ?_, rfl⟩
        · intro q hq
          rcases mem_set hq with h | h
          · rw [h]; exact hc3 _ (getD_mem (by omega))
          · exact hc3 q h
        · rw [← hsd]
          conv => rhs; unfold sd
          rw [if_pos (by omega), if_pos (by assumption)]
      · refine ⟨_, _, _, cur, k, _, rfl, F2, N2, m1, m3, m4, hc1, hc2, ?_⟩
        rw [← hsd]
        obtain ⟨f', rfl⟩ : ∃ f', f = f' + 1 := ⟨f - 1, by omega⟩
        unfold sd
        rw [if_pos (by omega), if_neg (by rename_i hb; rw [hb]; exact Bool.false_ne_true)]
      · refine ⟨_, _, _, cur, k, _, rfl, F2, N2, m1, m3, m4, hc1, hc2, ?_⟩
        rw [← hsd]
        cases f with
        | zero => rfl
        | succ f' => unfold sd; rw [if_neg (by omega)]
    case restv5 =>
      clear F1 N1
      rintro st ⟨h, tk, m', cur, pos', t', rfl, F1, N1, m1, m2, m3, hc1, hc2, hsd⟩
      simp only [← hsd] at hret
      (repeat' (first | (k_unfold; (try dsimp only)) | (k_end; wrow_close) | ((with_reducible show wpAny _ _ (execs _ _) _ _ _); k_fold) | (k_here; (with_reducible show wpAny _ _ (setItem (Value.ref _) (Value.int (Nat.cast _) _) (Value.ref (Prod.fst _))) _ _ _); k_dflt (refine' r_setN rfl ?k1u25 ?k2u25 ?k3u25 ?k4u25 ?k5u25 ?_; (case k1u25 => k_asm); (case k2u25 => k_asm); (case k3u25 => (first | assumption | exact Nat.le_trans (by assumption) (by decide) | exact Nat.lt_of_le_of_lt (by assumption) (by decide) | omega)); (case k4u25 => (first | assumption | exact Nat.le_trans (by assumption) (by decide) | exact Nat.lt_of_le_of_lt (by assumption) (by decide) | omega)); (case k5u25 => k_upd); k_whole); intro zh' zF' zN') | ((with_reducible show wpAny _ _ (eval (PySem.Expr.Name _ _) _) _ _ _); (k_here; k_dflt (refine' PyProof.Rows.ld ?k1u26 ?k2u26 ?_; (case k1u26 => k_asm); (case k2u26 => first | with_reducible assumption | assumption); k_whole))) | walk1 | (dsimp only; first | (k_here; (with_reducible show wpAny _ _ (setItem (Value.ref _) (Value.int (Nat.cast _) _) (Value.ref (Prod.fst _))) _ _ _); k_dflt (refine' r_setN rfl ?k1u27 ?k2u27 ?k3u27 ?k4u27 ?k5u27 ?_; (case k1u27 => k_asm); (case k2u27 => k_asm); (case k3u27 => (first | assumption | exact Nat.le_trans (by assumption) (by decide) | exact Nat.lt_of_le_of_lt (by assumption) (by decide) | omega)); (case k4u27 => (first | assumption | exact Nat.le_trans (by assumption) (by decide) | exact Nat.lt_of_le_of_lt (by assumption) (by decide) | omega)); (case k5u27 => k_upd); k_whole); intro zh' zF' zN') | ((with_reducible show wpAny _ _ (eval (PySem.Expr.Name _ _) _) _ _ _); (k_here; k_dflt (refine' PyProof.Rows.ld ?k1u28 ?k2u28 ?_; (case k1u28 => k_asm); (case k2u28 => first | with_reducible assumption | assumption); k_whole))) | walk1) | ((simp only [List.cons_append, List.nil_append]); walk1) | (leave1; try dsimp only) | fail "no step"))
      exact hret _ _ _ _ ⟨rfl, rfl⟩ (by assumption) (by assumption) (by assumption)
  have su_ok : ∀ w, SuSpec Mine.main.heap_1_39 Mine.main.view_1_40 w := by
    intro w
    have S0 : SdSpec Mine.main.heap_1_39 Mine.main.view_1_40 w := sd_ok w
    clear sd_ok join_ok dirname_ok fspath_ok getsep_ok
    unfold SuSpec CallOk
    k_fill
    intro l its n pos t2 hl hpos mean mg mb dp un gd cn cs a ccd cl outer A₀ base h₀ L m s Q E B F X N T hk hd hu hpre hret
    refine wpAny_call ?_
    k_dflt (refine' plainG ?k1v6 ?k2v6 ?k3v6 ?k4v6 ?k5v6 ?kAv6 ?kFv6 ?kKv6 ?k6v6 ?k7v6 ?k8v6 ?k9v6 ?kBv6 ?_ ?c2v6 ?c3v6 ?c4v6 ?c5v6; (case kAv6 => exact rfl); (case kFv6 => exact rfl); (case kKv6 => assumption); (case k1v6 => k_asm); (case k2v6 => k_asm); (case k3v6 => k_asm); (case k4v6 => k_asm); (case k5v6 => k_asm); (case k6v6 => k_is); (case k7v6 => k_is); (case k8v6 => (first | exact room2 (by assumption) rfl | exact room1 (by assumption) rfl | exact room0 (by assumption) | exact blt rfl | ktr_room)); (case k9v6 => exact BindsTo.of_eq rfl); (case kBv6 => exact locs rfl); (case c5v6 => decide); (case c2v6 => exact rfl); (case c3v6 => exact rfl); (case c4v6 => exact rfl); k_whole; intro g' L' h' FG' F' N' B' X' T' hg'; (try dsimp only); (try k_fold))
    have hI0 : ItemsAt g' its := ItemsAt.down hpre hg' N list_ne_tuple
    (repeat' (first | (k_unfold; (try dsimp only)) | (k_end; wrow_close) | ((with_reducible show wpAny _ _ (execs _ _) _ _ _); k_fold) | ((with_reducible show wpAny _ _ (call (Value.builtin "len") _ _) _ _ _); (k_here; (show wpAny _ _ (call (Value.builtin _) [Value.ref _]) _ _ _); k_dflt (refine' r_len ?k1u29 ?k2u29 ?k3u29 ?_; (case k1u29 => k_asm); (case k2u29 => k_mem); (case k3u29 => (first | assumption | exact Nat.le_trans (by assumption) (by decide) | exact Nat.lt_of_le_of_lt (by assumption) (by decide) | omega)); k_whole); intro zt9 zk9)) | (k_here; (with_reducible show wpAny _ _ (subscriptTail _ _ (Value.ref _) (Value.int (Nat.cast _) _)) _ _ _); k_dflt (refine' r_getN ?k1u30 ?k2u30 ?k4u30 ?k5u30 ?_ ?k6u30; (case k1u30 => k_asm); (case k2u30 => k_mem); (case k4u30 => (first | assumption | exact Nat.le_trans (by assumption) (by decide) | exact Nat.lt_of_le_of_lt (by assumption) (by decide) | omega)); (case k5u30 => (first | assumption | exact Nat.le_trans (by assumption) (by decide) | exact Nat.lt_of_le_of_lt (by assumption) (by decide) | omega)); (case k6u30 => with_unfolding_all rfl); k_whole)) | ((with_reducible show wpAny _ _ (exec (Stmt.While _ _ _ _) _) _ _ _); (refine stop_here ?_)) | walk1 | (dsimp only; first | ((with_reducible show wpAny _ _ (call (Value.builtin "len") _ _) _ _ _); (k_here; (show wpAny _ _ (call (Value.builtin _) [Value.ref _]) _ _ _); k_dflt (refine' r_len ?k1u32 ?k2u32 ?k3u32 ?_; (case k1u32 => k_asm); (case k2u32 => k_mem); (case k3u32 => (first | assumption | exact Nat.le_trans (by assumption) (by decide) | exact Nat.lt_of_le_of_lt (by assumption) (by decide) | omega)); k_whole); intro zt9 zk9)) | (k_here; (with_reducible show wpAny _ _ (subscriptTail _ _ (Value.ref _) (Value.int (Nat.cast _) _)) _ _ _); k_dflt (refine' r_getN ?k1u33 ?k2u33 ?k4u33 ?k5u33 ?_ ?k6u33; (case k1u33 => k_asm); (case k2u33 => k_mem); (case k4u33 => (first | assumption | exact Nat.le_trans (by assumption) (by decide) | exact Nat.lt_of_le_of_lt (by assumption) (by decide) | omega)); (case k5u33 => (first | assumption | exact Nat.le_trans (by assumption) (by decide) | exact Nat.lt_of_le_of_lt (by assumption) (by decide) | omega)); (case k6u33 => with_unfolding_all rfl); k_whole)) | ((with_reducible show wpAny _ _ (exec (Stmt.While _ _ _ _) _) _ _ _); (refine stop_here ?_)) | walk1) | ((simp only [List.cons_append, List.nil_append]); walk1) | (leave1; try dsimp only) | fail "no step"))
    have hx0 : PairAt g' (its.getD pos it0).1 (its.getD pos it0).2 := hI0.getD hpos
    have hxm : its.getD pos it0 ∈ its := getD_mem hpos
    have F1 := (by assumption : Fr g' L' _ _)
    have N1 := (by assumption : News g' L' _ _)
    unfold su at hret
    generalize its.getD pos it0 = x at *
    refine Stopped.mk ?_
    refine while_cut (fun st => Ex7 fun (h : Heap) (tk : Nat) (m' : Str → Option Value) (cur : List It) (p : Nat) (ip : Int) (t3 : Tok) => And12 (st = { s with heap := h, toks := tk }) (Fr g' L' h m') (News g' L' h [(l, listOf (valsI cur).toArray n)]) (m' (Str.ofString "heap") = some (.ref l)) (m' (Str.ofString "startpos") = some (.int pos t2)) (m' (Str.ofString "pos") = some (.int ip t3)) (m' (Str.ofString "newitem") = some (.ref x.1)) (ip = (p : Int)) (cur.length = its.length) (p < cur.length) ((∀ q ∈ cur, q ∈ its)) (suL its.length pos its = (p, cur)))
      (fun k st => Ex11 fun (h : Heap) (tk : Nat) (m' : Str → Option Value) (cur : List It) (p : Nat) (f : Nat) (ip : Int) (ic : Int) (te : Tok) (t3 : Tok) (t4 : Tok) => And17 (st = { s with heap := h, toks := tk }) (Fr g' L' h m') (News g' L' h [(l, listOf (valsI cur).toArray n)]) (m' (Str.ofString "heap") = some (.ref l)) (m' (Str.ofString "startpos") = some (.int pos t2)) (m' (Str.ofString "endpos") = some (.int its.length te)) (m' (Str.ofString "pos") = some (.int ip t3)) (m' (Str.ofString "childpos") = some (.int ic t4)) (m' (Str.ofString "newitem") = some (.ref x.1)) (ip = (p : Int)) (ic = 2 * (p : Int) + 1) (cur.length = its.length) (p < cur.length) ((∀ q ∈ cur, q ∈ its)) (cur.length ≤ f + p) (suL f p cur = suL its.length pos its) (k = its.length - p)) (its.length - pos) ?startv6 ?turnv6 ?restv6
    case startv6 => exact ⟨_, _, _, its, pos, its.length, _, _, _, _, _, rfl, F1, N1, rfl, rfl, rfl, rfl, rfl, rfl, rfl, rfl, rfl, hpos, fun q h => h, by omega, rfl, rfl⟩
    case turnv6 =>
      clear F1 N1
      intro k st HH2
      (try ((with_reducible show wpAny _ _ _ _ _ _); k_fold))
      obtain ⟨h, tk, m', cur, p, f, ip, ic, te, t3, t4, rfl, F1, N1, m1, m2, m3, m4, m5, m6, hip, hic, hc1, hc2, hc3, hf, hsd, rfl⟩ := HH2
      have hIc : ItemsAt g' cur := fun q hq => hI0 q (hc3 q hq)
      obtain ⟨f', rfl⟩ : ∃ f', f = f' + 1 := ⟨f - 1, by omega⟩
      have hl1 : ∀ y : It, (cur.set p y).length = cur.length := fun y => List.length_set ..
      have hmem : ∀ i, i < cur.length → ∀ q ∈ cur.set p (cur.getD i it0), q ∈ its := fun i hi q hq => by
        rcases mem_set hq with h | h
        · rw [h]; exact hc3 _ (getD_mem hi)
        · exact hc3 q h
      have e1 : ic.toNat = 2 * p + 1 := by omega
      have e2 : (ic + 1).toNat = 2 * p + 2 := by omega
      have e3 : ip.toNat = p := by omega
      rw [suL_succ] at hsd
      (repeat' (first | (k_unfold; (try dsimp only)) | (k_end; wrow_close) | ((with_reducible show wpAny _ _ (execs _ _) _ _ _); k_fold) | (k_here; (with_reducible show wpAny _ _ (setItem (Value.ref _) (Value.int _ _) (Value.ref (Prod.fst _))) _ _ _); k_dflt (refine' r_set rfl ?k1u35 ?k2u35 ?k0u35 ?k3u35 ?k4u35 ?k5u35 ?_; (case k1u35 => k_asm); (case k2u35 => k_asm); (case k5u35 => k_upd); (case k0u35 => (first | assumption | exact Nat.le_trans (by assumption) (by decide) | exact Nat.lt_of_le_of_lt (by assumption) (by decide) | omega)); (case k3u35 => (first | assumption | exact Nat.le_trans (by assumption) (by decide) | exact Nat.lt_of_le_of_lt (by assumption) (by decide) | omega)); (case k4u35 => (first | assumption | exact Nat.le_trans (by assumption) (by decide) | exact Nat.lt_of_le_of_lt (by assumption) (by decide) | omega)); k_whole); intro zh' zF' zN') | ((with_reducible show wpAny _ _ (compareOp CmpOp.Lt (Value.ref _) (Value.ref _)) _ _ _); (k_here; (with_reducible show wpAny _ _ (compareOp CmpOp.Lt (Value.ref _) (Value.ref _)) _ _ _); k_dflt (refine' tup_lt ?k1u36 ?k2u36 ?k3u36 ?_; (case k1u36 => (first | exact room2 (by assumption) rfl | exact room1 (by assumption) rfl | exact room0 (by assumption) | exact blt rfl | ktr_units)); (case k2u36 => (first | exact PairAt.keeps (by assumption) (Fr.keep (by assumption)) | exact PairAt.keeps (ItemsAt.getD (by assumption) (by (first | assumption | exact Nat.le_trans (by assumption) (by decide) | exact Nat.lt_of_le_of_lt (by assumption) (by decide) | omega))) (Fr.keep (by assumption)))); (case k3u36 => (first | exact PairAt.keeps (by assumption) (Fr.keep (by assumption)) | exact PairAt.keeps (ItemsAt.getD (by assumption) (by (first | assumption | exact Nat.le_trans (by assumption) (by decide) | exact Nat.lt_of_le_of_lt (by assumption) (by decide) | omega))) (Fr.keep (by assumption)))); k_whole))) | (k_here; (with_reducible show wpAny _ _ (subscriptTail _ _ (Value.ref _) (Value.int _ _)) _ _ _); k_dflt (refine' r_get ?k1u37 ?k2u37 ?k3u37 ?k4u37 ?k5u37 ?_ ?k6u37; (case k1u37 => k_asm); (case k2u37 => k_mem); (case k3u37 => (first | assumption | exact Nat.le_trans (by assumption) (by decide) | exact Nat.lt_of_le_of_lt (by assumption) (by decide) | omega)); (case k4u37 => (first | assumption | exact Nat.le_trans (by assumption) (by decide) | exact Nat.lt_of_le_of_lt (by assumption) (by decide) | omega)); (case k5u37 => (first | assumption | exact Nat.le_trans (by assumption) (by decide) | exact Nat.lt_of_le_of_lt (by assumption) (by decide) | omega)); (case k6u37 => with_unfolding_all rfl); k_whole)) | ((with_reducible show wpAny _ _ (eval (PySem.Expr.Name _ _) _) _ _ _); (k_here; k_dflt (refine' PyProof.Rows.ld ?k1u38 ?k2u38 ?_; (case k1u38 => k_asm); (case k2u38 => first | with_reducible assumption | assumption); k_whole))) | walk1 | (dsimp only; first | (k_here; (with_reducible show wpAny _ _ (setItem (Value.ref _) (Value.int _ _) (Value.ref (Prod.fst _))) _ _ _); k_dflt (refine' r_set rfl ?k1u39 ?k2u39 ?k0u39 ?k3u39 ?k4u39 ?k5u39 ?_; (case k1u39 => k_asm); (case k2u39 => k_asm); (case k5u39 => k_upd); (case k0u39 => (first | assumption | exact Nat.le_trans (by assumption) (by decide) | exact Nat.lt_of_le_of_lt (by assumption) (by decide) | omega)); (case k3u39 => (first | assumption | exact Nat.le_trans (by assumption) (by decide) | exact Nat.lt_of_le_of_lt (by assumption) (by decide) | omega)); (case k4u39 => (first | assumption | exact Nat.le_trans (by assumption) (by decide) | exact Nat.lt_of_le_of_lt (by assumption) (by decide) | omega)); k_whole); intro zh' zF' zN') | ((with_reducible show wpAny _ _ (compareOp CmpOp.Lt (Value.ref _) (Value.ref _)) _ _ _); (k_here; (with_reducible show wpAny _ _ (compareOp CmpOp.Lt (Value.ref _) (Value.ref _)) _ _ _); k_dflt (refine' tup_lt ?k1u40 ?k2u40 ?k3u40 ?_; (case k1u40 => (first | exact room2 (by assumption) rfl | exact room1 (by assumption) rfl | exact room0 (by assumption) | exact blt rfl | ktr_units)); (case k2u40 => (first | exact PairAt.keeps (by assumption) (Fr.keep (by assumption)) | exact PairAt.keeps (ItemsAt.getD (by assumption) (by (first | assumption | exact Nat.le_trans (by assumption) (by decide) | exact Nat.lt_of_le_of_lt (by assumption) (by decide) | omega))) (Fr.keep (by assumption)))); (case k3u40 => (first | exact PairAt.keeps (by assumption) (Fr.keep (by assumption)) | exact PairAt.keeps (ItemsAt.getD (by assumption) (by (first | assumption | exact Nat.le_trans (by assumption) (by decide) | exact Nat.lt_of_le_of_lt (by assumption) (by decide) | omega))) (Fr.keep (by assumption)))); k_whole))) | (k_here; (with_reducible show wpAny _ _ (subscriptTail _ _ (Value.ref _) (Value.int _ _)) _ _ _); k_dflt (refine' r_get ?k1u41 ?k2u41 ?k3u41 ?k4u41 ?k5u41 ?_ ?k6u41; (case k1u41 => k_asm); (case k2u41 => k_mem); (case k3u41 => (first | assumption | exact Nat.le_trans (by assumption) (by decide) | exact Nat.lt_of_le_of_lt (by assumption) (by decide) | omega)); (case k4u41 => (first | assumption | exact Nat.le_trans (by assumption) (by decide) | exact Nat.lt_of_le_of_lt (by assumption) (by decide) | omega)); (case k5u41 => (first | assumption | exact Nat.le_trans (by assumption) (by decide) | exact Nat.lt_of_le_of_lt (by assumption) (by decide) | omega)); (case k6u41 => with_unfolding_all rfl); k_whole)) | ((with_reducible show wpAny _ _ (eval (PySem.Expr.Name _ _) _) _ _ _); (k_here; k_dflt (refine' PyProof.Rows.ld ?k1u42 ?k2u42 ?_; (case k1u42 => k_asm); (case k2u42 => first | with_reducible assumption | assumption); k_whole))) | walk1) | ((simp only [List.cons_append, List.nil_append]); walk1) | (leave1; try dsimp only) | fail "no step"))
      all_goals (try dsimp only)
      all_goals refine Stopped.mk ?_
      all_goals have F2 := (by assumption : Fr g' L' _ _)
      all_goals have N2 := (by assumption : News g' L' _ _)
      · have hb := (by assumption : ltP _ _ = true)
        rw [e1, e2] at hb
        rw [e3, e1] at N2
        rw [if_pos (by omega), if_neg (by rw [hb]; exact fun h => Bool.noConfusion h.2)] at hsd
        exact ⟨its.length - (2 * p + 1), by omega, _, _, _, _, 2 * p + 1, f', _, _, _, _, _, rfl, F2, N2, m1, m2, m3, rfl, rfl, m6, by omega, by omega, by rw [hl1]; exact hc1, by rw [hl1]; omega, hmem _ (by omega), by rw [hl1]; omega, hsd, rfl⟩
      · have hb := (by assumption : ltP _ _ = false)
        rw [e1, e2] at hb
        rw [e3, e2] at N2
        rw [if_pos (by omega), if_pos ⟨by omega, hb⟩] at hsd
        exact ⟨its.length - (2 * p + 2), by omega, _, _, _, _, 2 * p + 2, f', _, _, _, _, _, rfl, F2, N2, m1, m2, m3, rfl, rfl, m6, by omega, by omega, by rw [hl1]; exact hc1, by rw [hl1]; omega, hmem _ (by omega), by rw [hl1]; omega, hsd, rfl⟩
      · rw [e3, e1] at N2
        rw [if_pos (by omega), if_neg (fun h => by have := h.1; omega)] at hsd
        exact ⟨its.length - (2 * p + 1), by omega, _, _, _, _, 2 * p + 1, f', _, _, _, _, _, rfl, F2, N2, m1, m2, m3, rfl, rfl, m6, by omega, by omega, by rw [hl1]; exact hc1, by rw [hl1]; omega, hmem _ (by omega), by rw [hl1]; omega, hsd, rfl⟩
      · rw [if_neg (by omega)] at hsd
        exact ⟨_, _, _, cur, p, _, _, rfl, F2, N2, m1, m2, m4, m6, hip, hc1, hc2, hc3, hsd.symm⟩
    case restv6 =>
      clear F1 N1
      rintro st ⟨h, tk, m', cur, p, ip, t3, rfl, F1, N1, m1, m2, m3, m4, hip, hc1, hc2, hc3, hsd⟩
      subst hip
      rw [hsd] at hret
      dsimp only at hret
      have hIc : ItemsAt g' (cur.set p x) := fun q hq => by
        rcases mem_set hq with h | h
        · rw [h]; exact hx0
        · exact hI0 q (hc3 q h)
      have hgx : (cur.set p x).getD p it0 = x := by simp [List.getD_eq_getElem?_getD, hc2]
      (repeat' (first | (k_unfold; (try dsimp only)) | (k_end; wrow_close) | ((with_reducible show wpAny _ _ (execs _ _) _ _ _); k_fold) | (k_here; (with_reducible show wpAny _ _ (call (Value.ref 214) _ _) _ _ _); (try dsimp only); k_dflt (refine' CallOk.useM (rest := []) ((show SdSpec _ _ _ by assumption) _ _ _ _ _ _ _ ?q1u43 ?q2u43) ?k1u43 ?k2u43 ?k3u43 ?k4u43 ?k5u43 ?kKu43 ?kdu43 ?kuu43 ?kpu43 ?h1u43 ?h2u43 ?h3u43 ?_; (case h1u43 => exact fun _ h => h); (case k1u43 => k_asm); (case k2u43 => k_asm); (case k3u43 => k_asm); (case k4u43 => k_asm); (case k5u43 => k_asm); (case kKu43 => first | exact rfl | assumption); (case kdu43 => (first | exact room2 (by assumption) rfl | exact room1 (by assumption) rfl | exact room0 (by assumption) | exact blt rfl | ktr_room)); (case kuu43 => (first | exact room2 (by assumption) rfl | exact room1 (by assumption) rfl | exact room0 (by assumption) | exact blt rfl | ktr_units)); (case h2u43 => exact fun _ h => nomatch h); (case h3u43 => exact fun _ h => nomatch h); (case kpu43 => exact ItemsAt.keeps (by assumption) (Fr.keep (by assumption))); (case q1u43 => (first | (rw [List.length_set]; (first | assumption | exact Nat.le_trans (by assumption) (by decide) | exact Nat.lt_of_le_of_lt (by assumption) (by decide) | omega)) | (first | assumption | exact Nat.le_trans (by assumption) (by decide) | exact Nat.lt_of_le_of_lt (by assumption) (by decide) | omega))); (case q2u43 => (first | (rw [List.length_set]; (first | assumption | exact Nat.le_trans (by assumption) (by decide) | exact Nat.lt_of_le_of_lt (by assumption) (by decide) | omega)) | (first | assumption | exact Nat.le_trans (by assumption) (by decide) | exact Nat.lt_of_le_of_lt (by assumption) (by decide) | omega))); skip); intro zh9 ztk9 zF9 zN9 zst9; (try dsimp only); (try simp only [List.append_nil] at zN9); (try k_sweep)) | (k_here; (with_reducible show wpAny _ _ (setItem (Value.ref _) (Value.int (Nat.cast _) _) (Value.ref (Prod.fst _))) _ _ _); k_dflt (refine' r_setN rfl ?k1u44 ?k2u44 ?k3u44 ?k4u44 ?k5u44 ?_; (case k1u44 => k_asm); (case k2u44 => k_asm); (case k5u44 => k_upd); (case k3u44 => (first | assumption | exact Nat.le_trans (by assumption) (by decide) | exact Nat.lt_of_le_of_lt (by assumption) (by decide) | omega)); (case k4u44 => (first | assumption | exact Nat.le_trans (by assumption) (by decide) | exact Nat.lt_of_le_of_lt (by assumption) (by decide) | omega)); k_whole); intro zh' zF' zN') | ((with_reducible show wpAny _ _ (eval (PySem.Expr.Name _ _) _) _ _ _); (k_here; k_dflt (refine' PyProof.Rows.ld ?k1u45 ?k2u45 ?_; (case k1u45 => k_asm); (case k2u45 => first | with_reducible assumption | assumption); k_whole))) | walk1 | (dsimp only; first | (k_here; (with_reducible show wpAny _ _ (call (Value.ref 214) _ _) _ _ _); (try dsimp only); k_dflt (refine' CallOk.useM (rest := []) ((show SdSpec _ _ _ by assumption) _ _ _ _ _ _ _ ?q1u46 ?q2u46) ?k1u46 ?k2u46 ?k3u46 ?k4u46 ?k5u46 ?kKu46 ?kdu46 ?kuu46 ?kpu46 ?h1u46 ?h2u46 ?h3u46 ?_; (case h1u46 => exact fun _ h => h); (case k1u46 => k_asm); (case k2u46 => k_asm); (case k3u46 => k_asm); (case k4u46 => k_asm); (case k5u46 => k_asm); (case kKu46 => first | exact rfl | assumption); (case kdu46 => (first | exact room2 (by assumption) rfl | exact room1 (by assumption) rfl | exact room0 (by assumption) | exact blt rfl | ktr_room)); (case kuu46 => (first | exact room2 (by assumption) rfl | exact room1 (by assumption) rfl | exact room0 (by assumption) | exact blt rfl | ktr_units)); (case h2u46 => exact fun _ h => nomatch h); (case h3u46 => exact fun _ h => nomatch h); (case kpu46 => exact ItemsAt.keeps (by assumption) (Fr.keep (by assumption))); (case q1u46 => (first | (rw [List.length_set]; (first | assumption | exact Nat.le_trans (by assumption) (by decide) | exact Nat.lt_of_le_of_lt (by assumption) (by decide) | omega)) | (first | assumption | exact Nat.le_trans (by assumption) (by decide) | exact Nat.lt_of_le_of_lt (by assumption) (by decide) | omega))); (case q2u46 => (first | (rw [List.length_set]; (first | assumption | exact Nat.le_trans (by assumption) (by decide) | exact Nat.lt_of_le_of_lt (by assumption) (by decide) | omega)) | (first | assumption | exact Nat.le_trans (by assumption) (by decide) | exact Nat.lt_of_le_of_lt (by assumption) (by decide) | omega))); skip); intro zh9 ztk9 zF9 zN9 zst9; (try dsimp only); (try simp only [List.append_nil] at zN9); (try k_sweep)) | (k_here; (with_reducible show wpAny _ _ (setItem (Value.ref _) (Value.int (Nat.cast _) _) (Value.ref (Prod.fst _))) _ _ _); k_dflt (refine' r_setN rfl ?k1u47 ?k2u47 ?k3u47 ?k4u47 ?k5u47 ?_; (case k1u47 => k_asm); (case k2u47 => k_asm); (case k5u47 => k_upd); (case k3u47 => (first | assumption | exact Nat.le_trans (by assumption) (by decide) | exact Nat.lt_of_le_of_lt (by assumption) (by decide) | omega)); (case k4u47 => (first | assumption | exact Nat.le_trans (by assumption) (by decide) | exact Nat.lt_of_le_of_lt (by assumption) (by decide) | omega)); k_whole); intro zh' zF' zN') | ((with_reducible show wpAny _ _ (eval (PySem.Expr.Name _ _) _) _ _ _); (k_here; k_dflt (refine' PyProof.Rows.ld ?k1u48 ?k2u48 ?_; (case k1u48 => k_asm); (case k2u48 => first | with_reducible assumption | assumption); k_whole))) | walk1) | ((simp only [List.cons_append, List.nil_append]); walk1) | (leave1; try dsimp only) | fail "no step"))
      refine hret _ _ _ _ ⟨rfl, rfl⟩ (by assumption) ?_ (by assumption)
      have N3 := (by assumption : News h₀ L _ _)
      rw [hgx] at N3
      exact N3
  have push_ok : ∀ w, PushSpec Mine.main.heap_1_39 Mine.main.view_1_40 w := by
    intro w
    have S0 : SdSpec Mine.main.heap_1_39 Mine.main.view_1_40 w := sd_ok w
    clear su_ok sd_ok join_ok dirname_ok fspath_ok getsep_ok
    unfold PushSpec CallOk
    k_fill
    intro l its n x hl mean mg mb dp un gd cn cs a ccd cl outer A₀ base h₀ L m s Q E B F X N T hk hd hu hpre hret
    refine wpAny_call ?_
    k_dflt (refine' plainG ?k1v7 ?k2v7 ?k3v7 ?k4v7 ?k5v7 ?kAv7 ?kFv7 ?kKv7 ?k6v7 ?k7v7 ?k8v7 ?k9v7 ?kBv7 ?_ ?c2v7 ?c3v7 ?c4v7 ?c5v7; (case kAv7 => exact rfl); (case kFv7 => exact rfl); (case kKv7 => assumption); (case k1v7 => k_asm); (case k2v7 => k_asm); (case k3v7 => k_asm); (case k4v7 => k_asm); (case k5v7 => k_asm); (case k6v7 => k_is); (case k7v7 => k_is); (case k8v7 => (first | exact room2 (by assumption) rfl | exact room1 (by assumption) rfl | exact room0 (by assumption) | exact blt rfl | ktr_room)); (case k9v7 => exact BindsTo.of_eq rfl); (case kBv7 => exact locs rfl); (case c5v7 => decide); (case c2v7 => exact rfl); (case c3v7 => exact rfl); (case c4v7 => exact rfl); k_whole; intro g' L' h' FG' F' N' B' X' T' hg'; (try dsimp only); (try k_fold))
    have hI0 : ItemsAt g' its := ItemsAt.down hpre.1 hg' N list_ne_tuple
    have hx0 : PairAt g' x.1 x.2 := PairAt.down hpre.2 hg' N list_ne_tuple
    have hIc : ItemsAt g' (its ++ [x]) := fun q hq => by
      rcases List.mem_append.mp hq with h | h
      · exact hI0 q h
      · rw [List.mem_singleton.mp h]; exact hx0
    have S0i : SdSpecI _ _ _ := SdSpec.int S0
    have e1 : ((its ++ [x]).length : Int) = (its.length : Int) + 1 := by simp
    (repeat' (first | (k_unfold; (try dsimp only)) | (k_end; wrow_close) | ((with_reducible show wpAny _ _ (execs _ _) _ _ _); k_fold) | (k_here; (with_reducible show wpAny _ _ (call (Value.ref 214) _ _) _ _ _); (try dsimp only); k_dflt (refine' CallOk.useM (rest := []) ((show SdSpecI _ _ _ by assumption) _ _ _ _ _ _ _ ?q1u49 ?q2u49 ?q3u49 ?q4u49) ?k1u49 ?k2u49 ?k3u49 ?k4u49 ?k5u49 ?kKu49 ?kdu49 ?kuu49 ?kpu49 ?h1u49 ?h2u49 ?h3u49 ?_; (case h1u49 => exact fun _ h => h); (case k1u49 => k_asm); (case k2u49 => k_asm); (case k3u49 => k_asm); (case k4u49 => k_asm); (case k5u49 => k_asm); (case kKu49 => first | exact rfl | assumption); (case kdu49 => (first | exact room2 (by assumption) rfl | exact room1 (by assumption) rfl | exact room0 (by assumption) | exact blt rfl | ktr_room)); (case kuu49 => (first | exact room2 (by assumption) rfl | exact room1 (by assumption) rfl | exact room0 (by assumption) | exact blt rfl | ktr_units)); (case h2u49 => exact fun _ h => nomatch h); (case h3u49 => exact fun _ h => nomatch h); (case kpu49 => (first | assumption | exact ItemsAt.keeps (by assumption) (Fr.keep (by assumption)))); (case q1u49 => ((try simp only [List.length_append, List.length_cons, List.length_nil, List.length_dropLast, List.length_set]); (first | assumption | exact Nat.le_trans (by assumption) (by decide) | exact Nat.lt_of_le_of_lt (by assumption) (by decide) | omega))); (case q2u49 => ((try simp only [List.length_append, List.length_cons, List.length_nil, List.length_dropLast, List.length_set]); (first | assumption | exact Nat.le_trans (by assumption) (by decide) | exact Nat.lt_of_le_of_lt (by assumption) (by decide) | omega))); (case q3u49 => ((try simp only [List.length_append, List.length_cons, List.length_nil, List.length_dropLast, List.length_set]); (first | assumption | exact Nat.le_trans (by assumption) (by decide) | exact Nat.lt_of_le_of_lt (by assumption) (by decide) | omega))); (case q4u49 => ((try simp only [List.length_append, List.length_cons, List.length_nil, List.length_dropLast, List.length_set]); (first | assumption | exact Nat.le_trans (by assumption) (by decide) | exact Nat.lt_of_le_of_lt (by assumption) (by decide) | omega))); skip); intro zh9 ztk9 zF9 zN9 zst9; (try dsimp only); (try simp only [List.append_nil] at zN9); (try k_sweep)) | ((with_reducible show wpAny _ _ (call (Value.builtin "list.append") _ _) _ _ _); (k_here; (show wpAny _ _ (call (Value.builtin _) [Value.ref _, Value.ref (Prod.fst _)]) _ _ _); k_dflt (refine' r_append rfl ?k1u50 ?k2u50 ?k3u50 ?k4u50 ?_; (case k1u50 => k_asm); (case k2u50 => k_asm); (case k3u50 => k_upd); (case k4u50 => ((try simp only [List.length_append, List.length_cons, List.length_nil, List.length_dropLast, List.length_set]); (first | assumption | exact Nat.le_trans (by assumption) (by decide) | exact Nat.lt_of_le_of_lt (by assumption) (by decide) | omega))); k_whole); intro zh' zF' zN')) | ((with_reducible show wpAny _ _ (call (Value.builtin "len") _ _) _ _ _); (k_here; (show wpAny _ _ (call (Value.builtin _) [Value.ref _]) _ _ _); k_dflt (refine' r_len ?k1u51 ?k2u51 ?k3u51 ?_; (case k1u51 => k_asm); (case k2u51 => k_mem); (case k3u51 => ((try simp only [List.length_append, List.length_cons, List.length_nil, List.length_dropLast, List.length_set]); (first | assumption | exact Nat.le_trans (by assumption) (by decide) | exact Nat.lt_of_le_of_lt (by assumption) (by decide) | omega))); k_whole); intro zt9 zk9)) | walk1 | (dsimp only; first | (k_here; (with_reducible show wpAny _ _ (call (Value.ref 214) _ _) _ _ _); (try dsimp only); k_dflt (refine' CallOk.useM (rest := []) ((show SdSpecI _ _ _ by assumption) _ _ _ _ _ _ _ ?q1u52 ?q2u52 ?q3u52 ?q4u52) ?k1u52 ?k2u52 ?k3u52 ?k4u52 ?k5u52 ?kKu52 ?kdu52 ?kuu52 ?kpu52 ?h1u52 ?h2u52 ?h3u52 ?_; (case h1u52 => exact fun _ h => h); (case k1u52 => k_asm); (case k2u52 => k_asm); (case k3u52 => k_asm); (case k4u52 => k_asm); (case k5u52 => k_asm); (case kKu52 => first | exact rfl | assumption); (case kdu52 => (first | exact room2 (by assumption) rfl | exact room1 (by assumption) rfl | exact room0 (by assumption) | exact blt rfl | ktr_room)); (case kuu52 => (first | exact room2 (by assumption) rfl | exact room1 (by assumption) rfl | exact room0 (by assumption) | exact blt rfl | ktr_units)); (case h2u52 => exact fun _ h => nomatch h); (case h3u52 => exact fun _ h => nomatch h); (case kpu52 => (first | assumption | exact ItemsAt.keeps (by assumption) (Fr.keep (by assumption)))); (case q1u52 => ((try simp only [List.length_append, List.length_cons, List.length_nil, List.length_dropLast, List.length_set]); (first | assumption | exact Nat.le_trans (by assumption) (by decide) | exact Nat.lt_of_le_of_lt (by assumption) (by decide) | omega))); (case q2u52 => ((try simp only [List.length_append, List.length_cons, List.length_nil, List.length_dropLast, List.length_set]); (first | assumption | exact Nat.le_trans (by assumption) (by decide) | exact Nat.lt_of_le_of_lt (by assumption) (by decide) | omega))); (case q3u52 => ((try simp only [List.length_append, List.length_cons, List.length_nil, List.length_dropLast, List.length_set]); (first | assumption | exact Nat.le_trans (by assumption) (by decide) | exact Nat.lt_of_le_of_lt (by assumption) (by decide) | omega))); (case q4u52 => ((try simp only [List.length_append, List.length_cons, List.length_nil, List.length_dropLast, List.length_set]); (first | assumption | exact Nat.le_trans (by assumption) (by decide) | exact Nat.lt_of_le_of_lt (by assumption) (by decide) | omega))); skip); intro zh9 ztk9 zF9 zN9 zst9; (try dsimp only); (try simp only [List.append_nil] at zN9); (try k_sweep)) | ((with_reducible show wpAny _ _ (call (Value.builtin "list.append") _ _) _ _ _); (k_here; (show wpAny _ _ (call (Value.builtin _) [Value.ref _, Value.ref (Prod.fst _)]) _ _ _); k_dflt (refine' r_append rfl ?k1u53 ?k2u53 ?k3u53 ?k4u53 ?_; (case k1u53 => k_asm); (case k2u53 => k_asm); (case k3u53 => k_upd); (case k4u53 => ((try simp only [List.length_append, List.length_cons, List.length_nil, List.length_dropLast, List.length_set]); (first | assumption | exact Nat.le_trans (by assumption) (by decide) | exact Nat.lt_of_le_of_lt (by assumption) (by decide) | omega))); k_whole); intro zh' zF' zN')) | ((with_reducible show wpAny _ _ (call (Value.builtin "len") _ _) _ _ _); (k_here; (show wpAny _ _ (call (Value.builtin _) [Value.ref _]) _ _ _); k_dflt (refine' r_len ?k1u54 ?k2u54 ?k3u54 ?_; (case k1u54 => k_asm); (case k2u54 => k_mem); (case k3u54 => ((try simp only [List.length_append, List.length_cons, List.length_nil, List.length_dropLast, List.length_set]); (first | assumption | exact Nat.le_trans (by assumption) (by decide) | exact Nat.lt_of_le_of_lt (by assumption) (by decide) | omega))); k_whole); intro zt9 zk9)) | walk1) | ((simp only [List.cons_append, List.nil_append]); walk1) | (leave1; try dsimp only) | fail "no step"))
    refine hret _ _ _ _ ⟨rfl, rfl⟩ (by assumption) ?_ (by assumption)
    have N3 := (by assumption : News h₀ L _ _)
    have e2 : (((its ++ [x]).length : Int) - 1).toNat = its.length := by omega
    have e3 : (its ++ [x]).getD its.length it0 = x := by simp [List.getD_eq_getElem?_getD]
    rw [e2, e3] at N3
    exact N3
  have pop_ok : ∀ w, PopSpec Mine.main.heap_1_39 Mine.main.view_1_40 w := by
    intro w
    have S0 : SuSpec Mine.main.heap_1_39 Mine.main.view_1_40 w := su_ok w
    clear push_ok su_ok sd_ok join_ok dirname_ok fspath_ok getsep_ok
    unfold PopSpec CallOk
    k_fill
    intro l its n hl hpos mean mg mb dp un gd cn cs a ccd cl outer A₀ base h₀ L m s Q E B F X N T hk hd hu hpre hret
    refine wpAny_call ?_
    k_dflt (refine' plainG ?k1v8 ?k2v8 ?k3v8 ?k4v8 ?k5v8 ?kAv8 ?kFv8 ?kKv8 ?k6v8 ?k7v8 ?k8v8 ?k9v8 ?kBv8 ?_ ?c2v8 ?c3v8 ?c4v8 ?c5v8; (case kAv8 => exact rfl); (case kFv8 => exact rfl); (case kKv8 => assumption); (case k1v8 => k_asm); (case k2v8 => k_asm); (case k3v8 => k_asm); (case k4v8 => k_asm); (case k5v8 => k_asm); (case k6v8 => k_is); (case k7v8 => k_is); (case k8v8 => (first | exact room2 (by assumption) rfl | exact room1 (by assumption) rfl | exact room0 (by assumption) | exact blt rfl | ktr_room)); (case k9v8 => exact BindsTo.of_eq rfl); (case kBv8 => exact locs rfl); (case c5v8 => decide); (case c2v8 => exact rfl); (case c3v8 => exact rfl); (case c4v8 => exact rfl); k_whole; intro g' L' h' FG' F' N' B' X' T' hg'; (try dsimp only); (try k_fold))
    have hI0 : ItemsAt g' its := ItemsAt.down hpre hg' N list_ne_tuple
    have hIc : ItemsAt g' (its.dropLast.set 0 (its.getLastD it0)) := fun q hq => by
      rcases mem_set hq with h | h
      · rw [h]; exact hI0 _ (getLastD_mem hpos)
      · exact hI0 _ (List.dropLast_subset _ h)
    have S0i : SuSpecI _ _ _ := SuSpec.int S0
    have hdl : its.dropLast.length = its.length - 1 := List.length_dropLast
    have hds : (its.dropLast.set 0 (its.getLastD it0)).length = its.dropLast.length := List.length_set ..
    (repeat' (first | (k_unfold; (try dsimp only)) | (k_end; wrow_close) | ((with_reducible show wpAny _ _ (execs _ _) _ _ _); k_fold) | (k_here; (with_reducible show wpAny _ _ (call (Value.ref 221) _ _) _ _ _); (try dsimp only); k_dflt (refine' CallOk.useM (rest := []) ((show SuSpecI _ _ _ by assumption) _ _ _ _ _ ?q1u55 ?q2u55 ?q3u55) ?k1u55 ?k2u55 ?k3u55 ?k4u55 ?k5u55 ?kKu55 ?kdu55 ?kuu55 ?kpu55 ?h1u55 ?h2u55 ?h3u55 ?_; (case h1u55 => exact fun _ h => h); (case k1u55 => k_asm); (case k2u55 => k_asm); (case k3u55 => k_asm); (case k4u55 => k_asm); (case k5u55 => k_asm); (case kKu55 => first | exact rfl | assumption); (case kdu55 => (first | exact room2 (by assumption) rfl | exact room1 (by assumption) rfl | exact room0 (by assumption) | exact blt rfl | ktr_room)); (case kuu55 => (first | exact room2 (by assumption) rfl | exact room1 (by assumption) rfl | exact room0 (by assumption) | exact blt rfl | ktr_units)); (case h2u55 => exact fun _ h => nomatch h); (case h3u55 => exact fun _ h => nomatch h); (case kpu55 => (first | assumption | exact ItemsAt.keeps (by assumption) (Fr.keep (by assumption)))); (case q1u55 => ((try simp only [List.length_append, List.length_cons, List.length_nil, List.length_dropLast, List.length_set]); (first | assumption | exact Nat.le_trans (by assumption) (by decide) | exact Nat.lt_of_le_of_lt (by assumption) (by decide) | omega))); (case q2u55 => ((try simp only [List.length_append, List.length_cons, List.length_nil, List.length_dropLast, List.length_set]); (first | assumption | exact Nat.le_trans (by assumption) (by decide) | exact Nat.lt_of_le_of_lt (by assumption) (by decide) | omega))); (case q3u55 => ((try simp only [List.length_append, List.length_cons, List.length_nil, List.length_dropLast, List.length_set]); (first | assumption | exact Nat.le_trans (by assumption) (by decide) | exact Nat.lt_of_le_of_lt (by assumption) (by decide) | omega))); skip); intro zh9 ztk9 zF9 zN9 zst9; (try dsimp only); (try simp only [List.append_nil] at zN9); (try k_sweep)) | (k_here; (with_reducible show wpAny _ _ (truthy (Value.ref _)) _ _ _); k_dflt (refine' r_truthy ?k1u56 ?k2u56 ?k3u56 ?_; (case k1u56 => k_asm); (case k2u56 => k_mem); (case k3u56 => ((try simp only [List.length_append, List.length_cons, List.length_nil, List.length_dropLast, List.length_set]); (first | assumption | exact Nat.le_trans (by assumption) (by decide) | exact Nat.lt_of_le_of_lt (by assumption) (by decide) | omega))); k_whole); intro zk9) | ((with_reducible show wpAny _ _ (call (Value.builtin "list.pop") _ _) _ _ _); (k_here; (show wpAny _ _ (call (Value.builtin _) [Value.ref _]) _ _ _); k_dflt (refine' r_pop ?k1u57 ?k2u57 ?k3u57 ?k4u57 ?k5u57 ?_; (case k1u57 => k_asm); (case k2u57 => k_asm); (case k3u57 => k_upd); (case k4u57 => ((try simp only [List.length_append, List.length_cons, List.length_nil, List.length_dropLast, List.length_set]); (first | assumption | exact Nat.le_trans (by assumption) (by decide) | exact Nat.lt_of_le_of_lt (by assumption) (by decide) | omega))); (case k5u57 => ((try simp only [List.length_append, List.length_cons, List.length_nil, List.length_dropLast, List.length_set]); (first | assumption | exact Nat.le_trans (by assumption) (by decide) | exact Nat.lt_of_le_of_lt (by assumption) (by decide) | omega))); k_whole); intro zh' zF' zN')) | (k_here; (with_reducible show wpAny _ _ (setItem (Value.ref _) (Value.int _ _) (Value.ref (Prod.fst _))) _ _ _); k_dflt (refine' r_set rfl ?k1u58 ?k2u58 ?k0u58 ?k3u58 ?k4u58 ?k5u58 ?_; (case k1u58 => k_asm); (case k2u58 => k_asm); (case k5u58 => k_upd); (case k0u58 => (first | assumption | exact Nat.le_trans (by assumption) (by decide) | exact Nat.lt_of_le_of_lt (by assumption) (by decide) | omega)); (case k3u58 => (first | assumption | exact Nat.le_trans (by assumption) (by decide) | exact Nat.lt_of_le_of_lt (by assumption) (by decide) | omega)); (case k4u58 => (first | assumption | exact Nat.le_trans (by assumption) (by decide) | exact Nat.lt_of_le_of_lt (by assumption) (by decide) | omega)); k_whole); intro zh' zF' zN') | (k_here; (with_reducible show wpAny _ _ (subscriptTail _ _ (Value.ref _) (Value.int _ _)) _ _ _); k_dflt (refine' r_get ?k1u59 ?k2u59 ?k3u59 ?k4u59 ?k5u59 ?_ ?k6u59; (case k1u59 => k_asm); (case k2u59 => k_mem); (case k3u59 => (first | assumption | exact Nat.le_trans (by assumption) (by decide) | exact Nat.lt_of_le_of_lt (by assumption) (by decide) | omega)); (case k4u59 => (first | assumption | exact Nat.le_trans (by assumption) (by decide) | exact Nat.lt_of_le_of_lt (by assumption) (by decide) | omega)); (case k5u59 => (first | assumption | exact Nat.le_trans (by assumption) (by decide) | exact Nat.lt_of_le_of_lt (by assumption) (by decide) | omega)); (case k6u59 => with_unfolding_all rfl); k_whole)) | walk1 | (dsimp only; first | (k_here; (with_reducible show wpAny _ _ (call (Value.ref 221) _ _) _ _ _); (try dsimp only); k_dflt (refine' CallOk.useM (rest := []) ((show SuSpecI _ _ _ by assumption) _ _ _ _ _ ?q1u60 ?q2u60 ?q3u60) ?k1u60 ?k2u60 ?k3u60 ?k4u60 ?k5u60 ?kKu60 ?kdu60 ?kuu60 ?kpu60 ?h1u60 ?h2u60 ?h3u60 ?_; (case h1u60 => exact fun _ h => h); (case k1u60 => k_asm); (case k2u60 => k_asm); (case k3u60 => k_asm); (case k4u60 => k_asm); (case k5u60 => k_asm); (case kKu60 => first | exact rfl | assumption); (case kdu60 => (first | exact room2 (by assumption) rfl | exact room1 (by assumption) rfl | exact room0 (by assumption) | exact blt rfl | ktr_room)); (case kuu60 => (first | exact room2 (by assumption) rfl | exact room1 (by assumption) rfl | exact room0 (by assumption) | exact blt rfl | ktr_units)); (case h2u60 => exact fun _ h => nomatch h); (case h3u60 => exact fun _ h => nomatch h); (case kpu60 => (first | assumption | exact ItemsAt.keeps (by assumption) (Fr.keep (by assumption)))); (case q1u60 => ((try simp only [List.length_append, List.length_cons, List.length_nil, List.length_dropLast, List.length_set]); (first | assumption | exact Nat.le_trans (by assumption) (by decide) | exact Nat.lt_of_le_of_lt (by assumption) (by decide) | omega))); (case q2u60 => ((try simp only [List.length_append, List.length_cons, List.length_nil, List.length_dropLast, List.length_set]); (first | assumption | exact Nat.le_trans (by assumption) (by decide) | exact Nat.lt_of_le_of_lt (by assumption) (by decide) | omega))); (case q3u60 => ((try simp only [List.length_append, List.length_cons, List.length_nil, List.length_dropLast, List.length_set]); (first | assumption | exact Nat.le_trans (by assumption) (by decide) | exact Nat.lt_of_le_of_lt (by assumption) (by decide) | omega))); skip); intro zh9 ztk9 zF9 zN9 zst9; (try dsimp only); (try simp only [List.append_nil] at zN9); (try k_sweep)) | (k_here; (with_reducible show wpAny _ _ (truthy (Value.ref _)) _ _ _); k_dflt (refine' r_truthy ?k1u61 ?k2u61 ?k3u61 ?_; (case k1u61 => k_asm); (case k2u61 => k_mem); (case k3u61 => ((try simp only [List.length_append, List.length_cons, List.length_nil, List.length_dropLast, List.length_set]); (first | assumption | exact Nat.le_trans (by assumption) (by decide) | exact Nat.lt_of_le_of_lt (by assumption) (by decide) | omega))); k_whole); intro zk9) | ((with_reducible show wpAny _ _ (call (Value.builtin "list.pop") _ _) _ _ _); (k_here; (show wpAny _ _ (call (Value.builtin _) [Value.ref _]) _ _ _); k_dflt (refine' r_pop ?k1u62 ?k2u62 ?k3u62 ?k4u62 ?k5u62 ?_; (case k1u62 => k_asm); (case k2u62 => k_asm); (case k3u62 => k_upd); (case k4u62 => ((try simp only [List.length_append, List.length_cons, List.length_nil, List.length_dropLast, List.length_set]); (first | assumption | exact Nat.le_trans (by assumption) (by decide) | exact Nat.lt_of_le_of_lt (by assumption) (by decide) | omega))); (case k5u62 => ((try simp only [List.length_append, List.length_cons, List.length_nil, List.length_dropLast, List.length_set]); (first | assumption | exact Nat.le_trans (by assumption) (by decide) | exact Nat.lt_of_le_of_lt (by assumption) (by decide) | omega))); k_whole); intro zh' zF' zN')) | (k_here; (with_reducible show wpAny _ _ (setItem (Value.ref _) (Value.int _ _) (Value.ref (Prod.fst _))) _ _ _); k_dflt (refine' r_set rfl ?k1u63 ?k2u63 ?k0u63 ?k3u63 ?k4u63 ?k5u63 ?_; (case k1u63 => k_asm); (case k2u63 => k_asm); (case k5u63 => k_upd); (case k0u63 => (first | assumption | exact Nat.le_trans (by assumption) (by decide) | exact Nat.lt_of_le_of_lt (by assumption) (by decide) | omega)); (case k3u63 => (first | assumption | exact Nat.le_trans (by assumption) (by decide) | exact Nat.lt_of_le_of_lt (by assumption) (by decide) | omega)); (case k4u63 => (first | assumption | exact Nat.le_trans (by assumption) (by decide) | exact Nat.lt_of_le_of_lt (by assumption) (by decide) | omega)); k_whole); intro zh' zF' zN') | (k_here; (with_reducible show wpAny _ _ (subscriptTail _ _ (Value.ref _) (Value.int _ _)) _ _ _); k_dflt (refine' r_get ?k1u64 ?k2u64 ?k3u64 ?k4u64 ?k5u64 ?_ ?k6u64; (case k1u64 => k_asm); (case k2u64 => k_mem); (case k3u64 => (first | assumption | exact Nat.le_trans (by assumption) (by decide) | exact Nat.lt_of_le_of_lt (by assumption) (by decide) | omega)); (case k4u64 => (first | assumption | exact Nat.le_trans (by assumption) (by decide) | exact Nat.lt_of_le_of_lt (by assumption) (by decide) | omega)); (case k5u64 => (first | assumption | exact Nat.le_trans (by assumption) (by decide) | exact Nat.lt_of_le_of_lt (by assumption) (by decide) | omega)); (case k6u64 => with_unfolding_all rfl); k_whole)) | walk1) | ((simp only [List.cons_append, List.nil_append]); walk1) | (leave1; try dsimp only) | fail "no step"))
    · have h1 : 1 < its.length := by omega
      exact hret (.ref (its.dropLast.getD 0 it0).1) [(l, listOf (valsI (su 0 (its.dropLast.set 0 (its.getLastD it0)))).toArray (n + 1))] _ _ ⟨by rw [popI_eq1 h1, dropLast_head h1], by rw [popI_eq1 h1]⟩ (by assumption) (by assumption) (by assumption)
    · have h1 : ¬ 1 < its.length := by omega
      exact hret (.ref (its.getLastD it0).1) [(l, listOf (valsI its.dropLast).toArray (n + 1))] _ _ ⟨by rw [popI_eq2 h1], by rw [popI_eq2 h1]⟩ (by assumption) (by assumption) (by assumption)
  have hfy_ok : ∀ w, HfySpec Mine.main.heap_1_39 Mine.main.view_1_40 w := by
    intro w
    have S0 : SuSpec Mine.main.heap_1_39 Mine.main.view_1_40 w := su_ok w
    clear pop_ok push_ok su_ok sd_ok join_ok dirname_ok fspath_ok getsep_ok
    unfold HfySpec CallOk
    k_fill
    intro l its n hl mean mg mb dp un gd cn cs a ccd cl outer A₀ base h₀ L m s Q E B F X N T hk hd hu hpre hret
    refine wpAny_call ?_
    k_dflt (refine' plainG ?k1v9 ?k2v9 ?k3v9 ?k4v9 ?k5v9 ?kAv9 ?kFv9 ?kKv9 ?k6v9 ?k7v9 ?k8v9 ?k9v9 ?kBv9 ?_ ?c2v9 ?c3v9 ?c4v9 ?c5v9; (case kAv9 => exact rfl); (case kFv9 => exact rfl); (case kKv9 => assumption); (case k1v9 => k_asm); (case k2v9 => k_asm); (case k3v9 => k_asm); (case k4v9 => k_asm); (case k5v9 => k_asm); (case k6v9 => k_is); (case k7v9 => k_is); (case k8v9 => (first | exact room2 (by assumption) rfl | exact room1 (by assumption) rfl | exact room0 (by assumption) | exact blt rfl | ktr_room)); (case k9v9 => exact BindsTo.of_eq rfl); (case kBv9 => exact locs rfl); (case c5v9 => decide); (case c2v9 => exact rfl); (case c3v9 => exact rfl); (case c4v9 => exact rfl); k_whole; intro g' L' h' FG' F' N' B' X' T' hg'; (try dsimp only); (try k_fold))
    have hI0 : ItemsAt g' its := ItemsAt.down hpre hg' N list_ne_tuple
    have S0i : SuSpecI _ _ _ := SuSpec.int S0
    have hfd : ((its.length : Int)).fdiv 2 = ((its.length / 2 : Nat) : Int) := by rw [Int.fdiv_eq_ediv_of_nonneg _ (by decide)]; simp
    have hhalf : its.length / 2 ≤ its.length := Nat.div_le_self _ _
    have hhalf2 : 2 * (its.length / 2) ≤ its.length := Nat.mul_div_le _ _
    (repeat' (first | (k_unfold; (try dsimp only)) | (k_end; wrow_close) | ((with_reducible show wpAny _ _ (execs _ _) _ _ _); k_fold) | ((with_reducible show wpAny _ _ (call (Value.type "reversed") _ _) _ _ _); (k_here; (show wpAny _ _ (call (Value.type _) [Value.ref _]) _ _ _); k_dflt (refine' r_rev ?k1u65 ?k2u65 ?k3u65 ?k4u65 ?k5u65 ?_; (case k1u65 => k_asm); (case k2u65 => k_asm); (case k3u65 => assumption); (case k4u65 => assumption); (case k5u65 => (first | assumption | exact Nat.le_trans (by assumption) (by decide) | exact Nat.lt_of_le_of_lt (by assumption) (by decide) | omega)); k_whole); intro zD' zh' zF' zN')) | ((with_reducible show wpAny _ _ (exec (Stmt.For (PySem.Expr.Name _ _) (PySem.Expr.Call _ _ _ _) _ _ _) _) _ _ _); (k_here; (with_unfolding_all refine' for_stop ?_ ?hsu66; (case hsu66 => exact fun _ => rfl); k_whole))) | ((with_reducible show wpAny _ _ (call (Value.builtin "len") _ _) _ _ _); (k_here; (show wpAny _ _ (call (Value.builtin _) [Value.ref _]) _ _ _); k_dflt (refine' r_len ?k1u67 ?k2u67 ?k4u67 ?_; (case k1u67 => k_asm); (case k2u67 => k_mem); (case k4u67 => ((try simp only [List.length_append, List.length_cons, List.length_nil, List.length_dropLast, List.length_set, su_len]); (first | assumption | exact Nat.le_trans (by assumption) (by decide) | exact Nat.lt_of_le_of_lt (by assumption) (by decide) | omega))); k_whole); intro zt9 zk9)) | walk1 | (dsimp only; first | ((with_reducible show wpAny _ _ (call (Value.type "reversed") _ _) _ _ _); (k_here; (show wpAny _ _ (call (Value.type _) [Value.ref _]) _ _ _); k_dflt (refine' r_rev ?k1u68 ?k2u68 ?k3u68 ?k4u68 ?k5u68 ?_; (case k1u68 => k_asm); (case k2u68 => k_asm); (case k3u68 => assumption); (case k4u68 => assumption); (case k5u68 => (first | assumption | exact Nat.le_trans (by assumption) (by decide) | exact Nat.lt_of_le_of_lt (by assumption) (by decide) | omega)); k_whole); intro zD' zh' zF' zN')) | ((with_reducible show wpAny _ _ (exec (Stmt.For (PySem.Expr.Name _ _) (PySem.Expr.Call _ _ _ _) _ _ _) _) _ _ _); (k_here; (with_unfolding_all refine' for_stop ?_ ?hsu69; (case hsu69 => exact fun _ => rfl); k_whole))) | ((with_reducible show wpAny _ _ (call (Value.builtin "len") _ _) _ _ _); (k_here; (show wpAny _ _ (call (Value.builtin _) [Value.ref _]) _ _ _); k_dflt (refine' r_len ?k1u70 ?k2u70 ?k4u70 ?_; (case k1u70 => k_asm); (case k2u70 => k_mem); (case k4u70 => ((try simp only [List.length_append, List.length_cons, List.length_nil, List.length_dropLast, List.length_set, su_len]); (first | assumption | exact Nat.le_trans (by assumption) (by decide) | exact Nat.lt_of_le_of_lt (by assumption) (by decide) | omega))); k_whole); intro zt9 zk9)) | walk1) | ((simp only [List.cons_append, List.nil_append]); walk1) | (leave1; try dsimp only) | fail "no step"))
    refine Stopped.mk ?_
    have F1 := (by assumption : Fr g' L' _ _)
    have N1 := (by assumption : News g' L' _ _)
    unfold hfyI at hret
    refine for_riter (L := L') rfl rfl rfl F1 N1 (fun i m led => ∃ cur, And5 (led = [(l, listOf (valsI cur).toArray n)]) (m (Str.ofString "x") = some (.ref l)) (cur.length = its.length) ((∀ q ∈ cur, q ∈ its)) (hfyL (its.length / 2 - i) cur = hfyL (its.length / 2) its)) (fun _ _ => False) ?hJv9 ⟨its, rfl, rfl, rfl, fun _ h => h, rfl⟩ ?turnv9 ?restv9 (fun _ _ h => h.elim)
    case hJv9 =>
      rintro i m led ⟨cur, rfl, -⟩ p hp
      rw [List.mem_singleton.mp hp]
      intro e
      exact absurd (Value.type.inj e) (by decide)
    case turnv9 =>
      clear F1 N1
      intro i t m led oI h tk hi HH8 F1 N1 off
      (try ((with_reducible show wpAny _ _ _ _ _ _); k_fold))
      obtain ⟨cur, rfl, m1, hc1, hc2, hc3⟩ := HH8
      have hne := off _ List.mem_cons_self
      dsimp only at hne
      have hIc : ItemsAt g' cur := fun q hq => hI0 q (hc2 q hq)
      have hin : its.length / 2 - i = (its.length / 2 - (i + 1)) + 1 := by omega
      have hia : ((its.length / 2 : Nat) : Int) - 1 + (i : Int) * (-1) = ((its.length / 2 - (i + 1) : Nat) : Int) := by omega
      have hib : its.length / 2 - (i + 1) < cur.length := by omega
      rw [hia]
      dsimp only
      (repeat' (first | (k_unfold; (try dsimp only)) | (k_end; wrow_close) | ((with_reducible show wpAny _ _ (execs _ _) _ _ _); k_fold) | (k_here; (with_reducible show wpAny _ _ (call (Value.ref 221) _ _) _ _ _); (try dsimp only); k_dflt (refine' CallOk.useU0 ((show SuSpecI _ _ _ by assumption) _ _ _ _ _ ?q1u71 ?q2u71 ?q3u71) ?k1u71 ?k2u71 ?k3u71 ?k4u71 ?k5u71 ?kKu71 ?kdu71 ?kuu71 ?kpu71 ?h1u71 ?hUu71 ?_; (case k1u71 => k_asm); (case k2u71 => k_asm); (case k3u71 => k_asm); (case k4u71 => k_asm); (case k5u71 => k_asm); (case kKu71 => first | exact rfl | assumption); (case kdu71 => (first | exact room2 (by assumption) rfl | exact room1 (by assumption) rfl | exact room0 (by assumption) | exact blt rfl | ktr_room)); (case kuu71 => (first | exact room2 (by assumption) rfl | exact room1 (by assumption) rfl | exact room0 (by assumption) | exact blt rfl | ktr_units)); (case hUu71 => k_updF); (case h1u71 => exact fun _ h => nomatch h); (case kpu71 => (first | assumption | exact ItemsAt.keeps (by assumption) (Fr.keep (by assumption)))); (case q1u71 => ((try simp only [List.length_append, List.length_cons, List.length_nil, List.length_dropLast, List.length_set, su_len]); (first | assumption | exact Nat.le_trans (by assumption) (by decide) | exact Nat.lt_of_le_of_lt (by assumption) (by decide) | omega))); (case q2u71 => ((try simp only [List.length_append, List.length_cons, List.length_nil, List.length_dropLast, List.length_set, su_len]); (first | assumption | exact Nat.le_trans (by assumption) (by decide) | exact Nat.lt_of_le_of_lt (by assumption) (by decide) | omega))); (case q3u71 => ((try simp only [List.length_append, List.length_cons, List.length_nil, List.length_dropLast, List.length_set, su_len]); (first | assumption | exact Nat.le_trans (by assumption) (by decide) | exact Nat.lt_of_le_of_lt (by assumption) (by decide) | omega))); skip); intro zh9 ztk9 zF9 zN9 zst9; (try dsimp only); (try k_sweep)) | ((with_reducible show wpAny _ _ (eval (PySem.Expr.Name _ _) _) _ _ _); (k_here; k_dflt (refine' PyProof.Rows.ld ?k1u72 ?k2u72 ?_; (case k1u72 => k_asm); (case k2u72 => first | with_reducible assumption | assumption); k_whole))) | walk1 | (dsimp only; first | (k_here; (with_reducible show wpAny _ _ (call (Value.ref 221) _ _) _ _ _); (try dsimp only); k_dflt (refine' CallOk.useU0 ((show SuSpecI _ _ _ by assumption) _ _ _ _ _ ?q1u73 ?q2u73 ?q3u73) ?k1u73 ?k2u73 ?k3u73 ?k4u73 ?k5u73 ?kKu73 ?kdu73 ?kuu73 ?kpu73 ?h1u73 ?hUu73 ?_; (case k1u73 => k_asm); (case k2u73 => k_asm); (case k3u73 => k_asm); (case k4u73 => k_asm); (case k5u73 => k_asm); (case kKu73 => first | exact rfl | assumption); (case kdu73 => (first | exact room2 (by assumption) rfl | exact room1 (by assumption) rfl | exact room0 (by assumption) | exact blt rfl | ktr_room)); (case kuu73 => (first | exact room2 (by assumption) rfl | exact room1 (by assumption) rfl | exact room0 (by assumption) | exact blt rfl | ktr_units)); (case hUu73 => k_updF); (case h1u73 => exact fun _ h => nomatch h); (case kpu73 => (first | assumption | exact ItemsAt.keeps (by assumption) (Fr.keep (by assumption)))); (case q1u73 => ((try simp only [List.length_append, List.length_cons, List.length_nil, List.length_dropLast, List.length_set, su_len]); (first | assumption | exact Nat.le_trans (by assumption) (by decide) | exact Nat.lt_of_le_of_lt (by assumption) (by decide) | omega))); (case q2u73 => ((try simp only [List.length_append, List.length_cons, List.length_nil, List.length_dropLast, List.length_set, su_len]); (first | assumption | exact Nat.le_trans (by assumption) (by decide) | exact Nat.lt_of_le_of_lt (by assumption) (by decide) | omega))); (case q3u73 => ((try simp only [List.length_append, List.length_cons, List.length_nil, List.length_dropLast, List.length_set, su_len]); (first | assumption | exact Nat.le_trans (by assumption) (by decide) | exact Nat.lt_of_le_of_lt (by assumption) (by decide) | omega))); skip); intro zh9 ztk9 zF9 zN9 zst9; (try dsimp only); (try k_sweep)) | ((with_reducible show wpAny _ _ (eval (PySem.Expr.Name _ _) _) _ _ _); (k_here; k_dflt (refine' PyProof.Rows.ld ?k1u74 ?k2u74 ?_; (case k1u74 => k_asm); (case k2u74 => first | with_reducible assumption | assumption); k_whole))) | walk1) | ((simp only [List.cons_append, List.nil_append]); walk1) | (leave1; try dsimp only) | fail "no step"))
      all_goals (try dsimp only)
      refine Stopped.mk ?_
      have F2 := (by assumption : Fr g' L' _ _)
      have N2 := (by assumption : News g' L' _ _)
      rw [Int.toNat_natCast] at N2
      rw [hin] at hc3
      exact ⟨_, _, _, _, rfl, F2, N2, _, rfl, m1, by rw [su_len]; exact hc1, fun q hq => hc2 q (su_mem hib hq), hc3⟩
    case restv9 =>
      clear F1 N1
      rintro m led h tk ⟨cur, rfl, m1, hc1, hc2, hc3⟩ F1 N1
      rw [Nat.sub_self] at hc3
      dsimp only
      (repeat' (first | (k_unfold; (try dsimp only)) | (k_end; wrow_close) | ((with_reducible show wpAny _ _ (execs _ _) _ _ _); k_fold) | walk1 | (dsimp only; first | walk1) | ((simp only [List.cons_append, List.nil_append]); walk1) | (leave1; try dsimp only) | fail "no step"))
      exact hret _ _ _ _ ⟨rfl, by rw [← hc3]⟩ (by assumption) (by assumption) (by assumption)
  have conv_ok : ∀ w, ConvSpec Mine.main.heap_1_39 Mine.main.view_1_40 w := by
    intro w
    clear hfy_ok pop_ok push_ok su_ok sd_ok join_ok dirname_ok fspath_ok getsep_ok
    unfold ConvSpec CallOk
    k_fill
    intro self x t b hc hl mean mg mb dp un gd cn cs a ccd cl outer A₀ base h₀ L m s Q E B F X N T hk hd hu hpre hret
    refine wpAny_call ?_
    k_dflt (refine' plainG ?k1v10 ?k2v10 ?k3v10 ?k4v10 ?k5v10 ?kAv10 ?kFv10 ?kKv10 ?k6v10 ?k7v10 ?k8v10 ?k9v10 ?kBv10 ?_ ?c2v10 ?c3v10 ?c4v10 ?c5v10; (case kAv10 => exact rfl); (case kFv10 => exact rfl); (case kKv10 => assumption); (case k1v10 => k_asm); (case k2v10 => k_asm); (case k3v10 => k_asm); (case k4v10 => k_asm); (case k5v10 => k_asm); (case k6v10 => k_is); (case k7v10 => k_is); (case k8v10 => (first | exact room2 (by assumption) rfl | exact room1 (by assumption) rfl | exact room0 (by assumption) | exact blt rfl | ktr_room)); (case k9v10 => (refine' kp_binds ?kxv10 ?kev10; (case kxv10 => k_in); (case kev10 => exact fun _ => rfl))); (case kBv10 => exact locs rfl); (case c5v10 => decide); (case c2v10 => exact rfl); (case c3v10 => exact rfl); (case c4v10 => exact rfl); k_whole; intro g' L' h' FG' F' N' B' X' T' hg'; (try dsimp only); (try k_fold))
    (repeat' (first | (k_unfold; (try dsimp only)) | (k_end; wrow_close) | ((with_reducible show wpAny _ _ (execs _ _) _ _ _); k_fold) | ((with_reducible show wpAny _ _ (call (Value.builtin "re.Pattern.search") _ _) _ _ _); (k_here; k_dflt (refine' r_search ?k1u75 ?k2u75 ?k3u75 ?k4u75 ?k5u75 ?k6u75 ?k7u75 ?k8u75 ?k9u75 ?k10u75 ?k11u75 ?_; (case k1u75 => k_asm); (case k2u75 => k_asm); (case k3u75 => exact rfl); (case k4u75 => exact rfl); (case k5u75 => exact rfl); (first | ((case k7u75 => exact bars_name); (case k6u75 => decide +kernel); (case k9u75 => exact first_name)) | ((case k7u75 => exact bars_value); (case k6u75 => decide +kernel); (case k9u75 => exact first_value))); (case k8u75 => exact rfl); (case k10u75 => assumption); (case k11u75 => assumption); k_whole))) | (k_here; (with_reducible show wpAny _ _ (getMethod (Value.ref _) _ _) _ _ _); k_dflt (refine' r_searchM ?k1u76 ?k2u76 ?k3u76 ?_; (case k1u76 => k_asm); (case k2u76 => k_asm); (case k3u76 => exact rfl); k_whole)) | walk1 | (dsimp only; first | ((with_reducible show wpAny _ _ (call (Value.builtin "re.Pattern.search") _ _) _ _ _); (k_here; k_dflt (refine' r_search ?k1u77 ?k2u77 ?k3u77 ?k4u77 ?k5u77 ?k6u77 ?k7u77 ?k8u77 ?k9u77 ?k10u77 ?k11u77 ?_; (case k1u77 => k_asm); (case k2u77 => k_asm); (case k3u77 => exact rfl); (case k4u77 => exact rfl); (case k5u77 => exact rfl); (first | ((case k7u77 => exact bars_name); (case k6u77 => decide +kernel); (case k9u77 => exact first_name)) | ((case k7u77 => exact bars_value); (case k6u77 => decide +kernel); (case k9u77 => exact first_value))); (case k8u77 => exact rfl); (case k10u77 => assumption); (case k11u77 => assumption); k_whole))) | (k_here; (with_reducible show wpAny _ _ (getMethod (Value.ref _) _ _) _ _ _); k_dflt (refine' r_searchM ?k1u78 ?k2u78 ?k3u78 ?_; (case k1u78 => k_asm); (case k2u78 => k_asm); (case k3u78 => exact rfl); k_whole)) | walk1) | ((simp only [List.cons_append, List.nil_append]); walk1) | (leave1; try dsimp only) | fail "no step"))
    all_goals exact hret _ _ _ _ ⟨⟨t, rfl⟩, rfl⟩ (by assumption) (by assumption) (by assumption)
  have getall_ok : ∀ w, GetAllSpec Mine.main.heap_1_39 Mine.main.view_1_40 w := by
    intro w
    have S0 : ConvSpec Mine.main.heap_1_39 Mine.main.view_1_40 w := conv_ok w
    clear conv_ok hfy_ok pop_ok push_ok su_ok sd_ok join_ok dirname_ok fspath_ok getsep_ok
    unfold GetAllSpec CallOk
    k_fill
    intro x d l t t2 its n name bs hl hn hcl mean mg mb dp un gd cn cs a ccd cl outer A₀ base h₀ L m s Q E B F X N T hk hd hu hpre hret
    refine wpAny_call ?_
    k_dflt (refine' cellsG ?k1v11 ?k2v11 ?k3v11 ?k4v11 ?k5v11 ?kAv11 ?kFv11 ?kKv11 ?k6v11 ?k7v11 ?k8v11 ?k9v11 ?kBv11 ?kDv11 ?_ ?c2v11 ?c3v11 ?c4v11; (case kAv11 => exact rfl); (case kFv11 => exact rfl); (case kKv11 => assumption); (case k1v11 => k_asm); (case k2v11 => k_asm); (case k3v11 => k_asm); (case k4v11 => k_asm); (case k5v11 => k_asm); (case k6v11 => k_is); (case k7v11 => k_is); (case k8v11 => (first | exact room2 (by assumption) rfl | exact room1 (by assumption) rfl | exact room0 (by assumption) | exact blt rfl | ktr_room)); (case k9v11 => first | exact BindsTo.of_eq rfl | (refine' kp_binds ?kxv11 ?kev11; (case kxv11 => k_in); (case kev11 => exact fun _ => rfl))); (case kBv11 => exact rfl); (case kDv11 => decide +kernel); (case c2v11 => exact rfl); (case c3v11 => exact rfl); (case c4v11 => exact rfl); k_whole; intro g' L' h' tk' cells' FG' F' N' Y' B' X' T' hg' l1; (try k_lt l1); k_cells Y'; (try simp only [List.cons_append, List.nil_append] at N'); (try dsimp only); (try k_fold))
    have hI0 : HAt g' its := HAt.down hpre.1 hg' N hd_ne_tuple
    obtain ⟨hl1, hl2⟩ := hl
    (repeat' (first | (k_unfold; (try dsimp only)) | (k_end; wrow_close) | ((with_reducible show wpAny _ _ (execs _ _) _ _ _); k_fold) | ((with_reducible show LCt.CompSrcT _ _ _ _ _ _ _ _ _ _ _ _ _ _ _); (refine stop_here ?_)) | ((with_reducible show wpAny _ _ (eval (PySem.Expr.ListComp _ _ _ _) _) _ _ _); (k_here; k_dflt (refine LCt.ListComp_T (F₀ := by k_asm) (by with_unfolding_all rfl) (by decide) (by rfl) (by decide) (by rfl) ?_))) | (k_here; (with_reducible show wpAny _ _ (call (Value.ref 83) _ _) _ _ _); (try dsimp only); k_dflt (refine' CallOk.use1 ((show ConvSpec _ _ _ by assumption) _ _ _ _ ?q1u81 ?q2u81) ?k1u81 ?k2u81 ?k3u81 ?k4u81 ?k5u81 ?kKu81 ?kdu81 ?kuu81 ?kpu81 ?_; (case k1u81 => k_asm); (case k2u81 => k_asm); (case k3u81 => k_asm); (case k4u81 => k_asm); (case k5u81 => k_asm); (case kKu81 => first | exact rfl | assumption); (case kdu81 => (first | exact room2 (by assumption) rfl | exact room1 (by assumption) rfl | exact room0 (by assumption) | exact blt rfl | ktr_room)); (case kuu81 => (first | exact room2 (by assumption) rfl | exact room1 (by assumption) rfl | exact room0 (by assumption) | exact blt rfl | ktr_units)); (case kpu81 => exact trivial); (case q1u81 => assumption); (case q2u81 => ((try simp only [List.length_append, List.length_cons, List.length_nil]); (first | assumption | exact Nat.le_trans (by assumption) (by decide) | exact Nat.lt_of_le_of_lt (by assumption) (by decide) | omega))); skip); intro zt9 zh9 ztk9 zF9 zN9 zst9; (try dsimp only); (try k_sweep)) | walk1 | (dsimp only; first | ((with_reducible show LCt.CompSrcT _ _ _ _ _ _ _ _ _ _ _ _ _ _ _); (refine stop_here ?_)) | ((with_reducible show wpAny _ _ (eval (PySem.Expr.ListComp _ _ _ _) _) _ _ _); (k_here; k_dflt (refine LCt.ListComp_T (F₀ := by k_asm) (by with_unfolding_all rfl) (by decide) (by rfl) (by decide) (by rfl) ?_))) | (k_here; (with_reducible show wpAny _ _ (call (Value.ref 83) _ _) _ _ _); (try dsimp only); k_dflt (refine' CallOk.use1 ((show ConvSpec _ _ _ by assumption) _ _ _ _ ?q1u84 ?q2u84) ?k1u84 ?k2u84 ?k3u84 ?k4u84 ?k5u84 ?kKu84 ?kdu84 ?kuu84 ?kpu84 ?_; (case k1u84 => k_asm); (case k2u84 => k_asm); (case k3u84 => k_asm); (case k4u84 => k_asm); (case k5u84 => k_asm); (case kKu84 => first | exact rfl | assumption); (case kdu84 => (first | exact room2 (by assumption) rfl | exact room1 (by assumption) rfl | exact room0 (by assumption) | exact blt rfl | ktr_room)); (case kuu84 => (first | exact room2 (by assumption) rfl | exact room1 (by assumption) rfl | exact room0 (by assumption) | exact blt rfl | ktr_units)); (case kpu84 => exact trivial); (case q1u84 => assumption); (case q2u84 => ((try simp only [List.length_append, List.length_cons, List.length_nil]); (first | assumption | exact Nat.le_trans (by assumption) (by decide) | exact Nat.lt_of_le_of_lt (by assumption) (by decide) | omega))); skip); intro zt9 zh9 ztk9 zF9 zN9 zst9; (try dsimp only); (try k_sweep)) | walk1) | ((simp only [List.cons_append, List.nil_append]); walk1) | (leave1; try dsimp only) | fail "no step"))
    refine Stopped.mk ?_
    have F1 := (by assumption : Fr g' L' _ _)
    have N1 := (by assumption : News g' L' _ ((L' + 1, _) :: _))
    refine LCt.CompSrcT.ledger rfl F1 N1 (by k_mem) (by rw [List.size_toArray, List.length_map, sizeLine_eq]; omega) (fun g => ?_)
    refine compT_inv (fun i ys news => news = (L' + 1, _) :: hdL w x d l t its n ∧ ∃ ts : List (Str × Tok), ys = valsS ts ∧ ts.map (·.1) = getAllF name (its.take i)) ?turnv11 ?finv11 _ 0 [] _ (Nat.zero_add _) ⟨rfl, [], rfl, rfl⟩
    case turnv11 =>
      clear F1 N1
      intro i ys news v I oI C oC D m₂ h tk E' hi HH14 hv hC hx F2 N2 o1 o2
      (try ((with_reducible show wpAny _ _ _ _ _ _); k_fold))
      obtain ⟨rfl, ts, rfl, hts⟩ := HH14
      obtain ⟨q, hq, rfl⟩ := val_at hv
      have hmem : q ∈ its := List.mem_of_getElem? hq
      have hkv : KvAt g' q.1 q.2 := hI0 q hmem
      have hq1 := (hl2 q hmem).1
      have hq2 := (hl2 q hmem).2
      dsimp only
      (repeat' (first | (k_unfold; (try dsimp only)) | (k_end; wrow_close) | ((with_reducible show wpAny _ _ (execs _ _) _ _ _); k_fold) | (k_here; (with_reducible show wpAny _ _ (subscriptTail _ _ (Value.ref _) (Value.int 1 _)) _ _ _); k_dflt (refine' r_kv1 ?k1u85 ?_ ?k6u85; (case k1u85 => (first | exact KvAt.keeps (by assumption) (Fr.keep (by assumption)))); (case k6u85 => with_unfolding_all rfl); k_whole); intro zt9) | (k_here; (with_reducible show wpAny _ _ (subscriptTail _ _ (Value.ref _) (Value.int 0 _)) _ _ _); k_dflt (refine' r_kv0 ?k1u86 ?_ ?k6u86; (case k1u86 => (first | exact KvAt.keeps (by assumption) (Fr.keep (by assumption)))); (case k6u86 => with_unfolding_all rfl); k_whole); intro zt9) | walk1 | (dsimp only; first | (k_here; (with_reducible show wpAny _ _ (subscriptTail _ _ (Value.ref _) (Value.int 1 _)) _ _ _); k_dflt (refine' r_kv1 ?k1u87 ?_ ?k6u87; (case k1u87 => (first | exact KvAt.keeps (by assumption) (Fr.keep (by assumption)))); (case k6u87 => with_unfolding_all rfl); k_whole); intro zt9) | (k_here; (with_reducible show wpAny _ _ (subscriptTail _ _ (Value.ref _) (Value.int 0 _)) _ _ _); k_dflt (refine' r_kv0 ?k1u88 ?_ ?k6u88; (case k1u88 => (first | exact KvAt.keeps (by assumption) (Fr.keep (by assumption)))); (case k6u88 => with_unfolding_all rfl); k_whole); intro zt9) | walk1) | ((simp only [List.cons_append, List.nil_append]); walk1) | (leave1; try dsimp only) | fail "no step"))
      · have hb := (by assumption : (Txt.lower q.2.1 == Txt.lower name) = true)
        exact LCg.CompEnd.intro F2 N2 _ (fun _ h => h) o1 (.inr ⟨_, by k_mem, rfl, _, rfl⟩) ⟨rfl, ts ++ [(q.2.2, _)], valsS_snoc.symm, by rw [List.map_append, hts, getAllF_at hq, if_pos (eq_of_beq hb)]; rfl⟩
      · have hb := (by assumption : (Txt.lower q.2.1 == Txt.lower name) = false)
        exact LCg.CompEnd.intro F2 N2 _ (fun _ h => h) o1 (.inr ⟨_, by k_mem, rfl, _, rfl⟩) ⟨rfl, ts, rfl, by rw [hts, getAllF_at hq, if_neg (ne_of_beq_false hb), List.append_nil]⟩
    case finv11 =>
      clear F1 N1
      rintro ys news ⟨rfl, ts, rfl, hts⟩
      (repeat' (first | (k_unfold; (try dsimp only)) | (k_end; wrow_close) | ((with_reducible show wpAny _ _ (execs _ _) _ _ _); k_fold) | walk1 | (dsimp only; first | walk1) | ((simp only [List.cons_append, List.nil_append]); walk1) | (leave1; try dsimp only) | fail "no step"))
      have hfull : its.take (hvals its).toArray.size = its := by rw [List.size_toArray, List.length_map]; exact List.take_length
      rw [hfull] at hts
      have N5 := (by assumption : News g' L' _ ((_, LCg.lst (valsS ts)) :: _))
      have hbs : ∀ D : Addr, g'.get? D = none → ∀ b ∈ bs, b ≠ D := fun D hD b hb e => by
        obtain ⟨⟨o, ho⟩, hn⟩ := hpre.2 b hb
        have := hg' b o ho hn
        rw [e, hD] at this
        cases this
      have N4 := (by assumption : News h₀ L _ ((_, LCg.lst (valsS ts)) :: _))
      exact hret _ _ _ _ ⟨⟨(_, ts), hts, hbs _ (N5 _ (.head _)).2.2⟩, rfl, rfl⟩ (by assumption) (show News h₀ L _ ((_, LCg.lst (valsS ts)) :: hdL w x d l t its n) from News.sub N4 sub_skip) (by assumption)
  have lenh_ok : ∀ w, LenHSpec Mine.main.heap_1_39 Mine.main.view_1_40 w := by
    intro w
    clear getall_ok conv_ok hfy_ok pop_ok push_ok su_ok sd_ok join_ok dirname_ok fspath_ok getsep_ok
    unfold LenHSpec CallOk
    k_fill
    intro x d l t its n hl mean mg mb dp un gd cn cs a ccd cl outer A₀ base h₀ L m s Q E B F X N T hk hd hu hpre hret
    refine wpAny_call ?_
    k_dflt (refine' plainG ?k1v12 ?k2v12 ?k3v12 ?k4v12 ?k5v12 ?kAv12 ?kFv12 ?kKv12 ?k6v12 ?k7v12 ?k8v12 ?k9v12 ?kBv12 ?_ ?c2v12 ?c3v12 ?c4v12 ?c5v12; (case kAv12 => exact rfl); (case kFv12 => exact rfl); (case kKv12 => assumption); (case k1v12 => k_asm); (case k2v12 => k_asm); (case k3v12 => k_asm); (case k4v12 => k_asm); (case k5v12 => k_asm); (case k6v12 => k_is); (case k7v12 => k_is); (case k8v12 => (first | exact room2 (by assumption) rfl | exact room1 (by assumption) rfl | exact room0 (by assumption) | exact blt rfl | ktr_room)); (case k9v12 => first | exact BindsTo.of_eq rfl | exact binds_K (by k_in) rfl (by k_is) rfl rfl rfl); (case kBv12 => exact locs rfl); (case c5v12 => decide); (case c2v12 => exact rfl); (case c3v12 => exact rfl); (case c4v12 => exact rfl); k_whole; intro g' L' h' FG' F' N' B' X' T' hg'; (try dsimp only); (try k_fold))
    (repeat' (first | (k_unfold; (try dsimp only)) | (k_end; wrow_close) | ((with_reducible show wpAny _ _ (execs _ _) _ _ _); k_fold) | ((with_reducible show wpAny _ _ (call (Value.builtin "len") _ _) _ _ _); (k_here; (show wpAny _ _ (call (Value.builtin _) [Value.ref _]) _ _ _); k_dflt (refine' rv_len ?k1u89 ?k2u89 ?k4u89 ?_; (case k1u89 => k_asm); (case k2u89 => k_mem); (case k4u89 => (first | ((simp only [List.size_toArray, List.length_map]); (first | assumption | exact Nat.le_trans (by assumption) (by decide) | exact Nat.lt_of_le_of_lt (by assumption) (by decide) | omega)) | ((simp only [List.size_toArray, List.length_map]); exact Nat.le_trans delF_len (by (try simp only [List.length_take]); (first | assumption | exact Nat.le_trans (by assumption) (by decide) | exact Nat.lt_of_le_of_lt (by assumption) (by decide) | omega))))); k_whole); intro zt9 zk9)) | walk1 | (dsimp only; first | ((with_reducible show wpAny _ _ (call (Value.builtin "len") _ _) _ _ _); (k_here; (show wpAny _ _ (call (Value.builtin _) [Value.ref _]) _ _ _); k_dflt (refine' rv_len ?k1u90 ?k2u90 ?k4u90 ?_; (case k1u90 => k_asm); (case k2u90 => k_mem); (case k4u90 => (first | ((simp only [List.size_toArray, List.length_map]); (first | assumption | exact Nat.le_trans (by assumption) (by decide) | exact Nat.lt_of_le_of_lt (by assumption) (by decide) | omega)) | ((simp only [List.size_toArray, List.length_map]); exact Nat.le_trans delF_len (by (try simp only [List.length_take]); (first | assumption | exact Nat.le_trans (by assumption) (by decide) | exact Nat.lt_of_le_of_lt (by assumption) (by decide) | omega))))); k_whole); intro zt9 zk9)) | walk1) | ((simp only [List.cons_append, List.nil_append]); walk1) | (leave1; try dsimp only) | fail "no step"))
    exact hret _ _ _ _ ⟨⟨_, by rw [List.length_map]⟩, rfl⟩ (by assumption) (by assumption) (by assumption)
  have items_ok : ∀ w, ItemsSpec Mine.main.heap_1_39 Mine.main.view_1_40 w := by
    intro w
    clear lenh_ok getall_ok conv_ok hfy_ok pop_ok push_ok su_ok sd_ok join_ok dirname_ok fspath_ok getsep_ok
    unfold ItemsSpec CallOk
    k_fill
    intro x d l t its n hl mean mg mb dp un gd cn cs a ccd cl outer A₀ base h₀ L m s Q E B F X N T hk hd hu hpre hret
    refine wpAny_call ?_
    k_dflt (refine' plainG ?k1v13 ?k2v13 ?k3v13 ?k4v13 ?k5v13 ?kAv13 ?kFv13 ?kKv13 ?k6v13 ?k7v13 ?k8v13 ?k9v13 ?kBv13 ?_ ?c2v13 ?c3v13 ?c4v13 ?c5v13; (case kAv13 => exact rfl); (case kFv13 => exact rfl); (case kKv13 => assumption); (case k1v13 => k_asm); (case k2v13 => k_asm); (case k3v13 => k_asm); (case k4v13 => k_asm); (case k5v13 => k_asm); (case k6v13 => k_is); (case k7v13 => k_is); (case k8v13 => (first | exact room2 (by assumption) rfl | exact room1 (by assumption) rfl | exact room0 (by assumption) | exact blt rfl | ktr_room)); (case k9v13 => first | exact BindsTo.of_eq rfl | exact binds_K (by k_in) rfl (by k_is) rfl rfl rfl); (case kBv13 => exact locs rfl); (case c5v13 => decide); (case c2v13 => exact rfl); (case c3v13 => exact rfl); (case c4v13 => exact rfl); k_whole; intro g' L' h' FG' F' N' B' X' T' hg'; (try dsimp only); (try k_fold))
    obtain ⟨hl1, hl2⟩ := hl
    obtain ⟨hn1, hn2, hn3⟩ := hd_ne N
    (repeat' (first | (k_unfold; (try dsimp only)) | (k_end; wrow_close) | ((with_reducible show wpAny _ _ (execs _ _) _ _ _); k_fold) | (k_here; (with_reducible show wpAny _ _ (subscriptTail _ (PySem.Expr.Slice _ _ none _) (Value.ref _) (Value.ref _)) _ _ _); k_dflt (refine' r_sliceAll ?k1u91 ?k2u91 ?k3u91 ?_ ?k6u91 ?k7u91 ?k8u91; (case k1u91 => k_asm); (case k2u91 => k_asm); (case k3u91 => k_mem); (case k6u91 => with_unfolding_all rfl); (case k7u91 => exact fun _ => by with_unfolding_all rfl); (case k8u91 => (first | ((simp only [List.size_toArray, List.length_map]); (first | assumption | exact Nat.le_trans (by assumption) (by decide) | exact Nat.lt_of_le_of_lt (by assumption) (by decide) | omega)) | ((simp only [List.size_toArray, List.length_map]); exact Nat.le_trans delF_len (by (try simp only [List.length_take]); (first | assumption | exact Nat.le_trans (by assumption) (by decide) | exact Nat.lt_of_le_of_lt (by assumption) (by decide) | omega))))); k_whole); intro zD' zh' zF' zN' zl1) | walk1 | (dsimp only; first | (k_here; (with_reducible show wpAny _ _ (subscriptTail _ (PySem.Expr.Slice _ _ none _) (Value.ref _) (Value.ref _)) _ _ _); k_dflt (refine' r_sliceAll ?k1u92 ?k2u92 ?k3u92 ?_ ?k6u92 ?k7u92 ?k8u92; (case k1u92 => k_asm); (case k2u92 => k_asm); (case k3u92 => k_mem); (case k6u92 => with_unfolding_all rfl); (case k7u92 => exact fun _ => by with_unfolding_all rfl); (case k8u92 => (first | ((simp only [List.size_toArray, List.length_map]); (first | assumption | exact Nat.le_trans (by assumption) (by decide) | exact Nat.lt_of_le_of_lt (by assumption) (by decide) | omega)) | ((simp only [List.size_toArray, List.length_map]); exact Nat.le_trans delF_len (by (try simp only [List.length_take]); (first | assumption | exact Nat.le_trans (by assumption) (by decide) | exact Nat.lt_of_le_of_lt (by assumption) (by decide) | omega))))); k_whole); intro zD' zh' zF' zN' zl1) | walk1) | ((simp only [List.cons_append, List.nil_append]); walk1) | (leave1; try dsimp only) | fail "no step"))
    have N4 := (by assumption : News h₀ L _ ((_, listOf _ 0) :: _))
    exact hret _ _ _ _ ⟨(_, 0), rfl, rfl⟩ (by assumption) N4 (by assumption)
  have del_ok : ∀ w, DelSpec Mine.main.heap_1_39 Mine.main.view_1_40 w := by
    intro w
    have S0 : ConvSpec Mine.main.heap_1_39 Mine.main.view_1_40 w := conv_ok w
    clear items_ok lenh_ok getall_ok conv_ok hfy_ok pop_ok push_ok su_ok sd_ok join_ok dirname_ok fspath_ok getsep_ok
    unfold DelSpec CallOk
    k_fill
    intro x d l t t2 its n name hl hn hcl mean mg mb dp un gd cn cs a ccd cl outer A₀ base h₀ L m s Q E B F X N T hk hd hu hpre hret
    refine wpAny_call ?_
    k_dflt (refine' cellsG ?k1v14 ?k2v14 ?k3v14 ?k4v14 ?k5v14 ?kAv14 ?kFv14 ?kKv14 ?k6v14 ?k7v14 ?k8v14 ?k9v14 ?kBv14 ?kDv14 ?_ ?c2v14 ?c3v14 ?c4v14; (case kAv14 => exact rfl); (case kFv14 => exact rfl); (case kKv14 => assumption); (case k1v14 => k_asm); (case k2v14 => k_asm); (case k3v14 => k_asm); (case k4v14 => k_asm); (case k5v14 => k_asm); (case k6v14 => k_is); (case k7v14 => k_is); (case k8v14 => (first | exact room2 (by assumption) rfl | exact room1 (by assumption) rfl | exact room0 (by assumption) | exact blt rfl | ktr_room)); (case k9v14 => first | exact BindsTo.of_eq rfl | (refine' kp_binds ?kxv14 ?kev14; (case kxv14 => k_in); (case kev14 => exact fun _ => rfl))); (case kBv14 => exact rfl); (case kDv14 => decide +kernel); (case c2v14 => exact rfl); (case c3v14 => exact rfl); (case c4v14 => exact rfl); k_whole; intro g' L' h' tk' cells' FG' F' N' Y' B' X' T' hg' l1; (try k_lt l1); k_cells Y'; (try simp only [List.cons_append, List.nil_append] at N'); (try dsimp only); (try k_fold))
    have hI0 : HAt g' its := HAt.down hpre hg' N hd_ne_tuple
    obtain ⟨hl1, hl2⟩ := hl
    obtain ⟨hn1, hn2, hn3⟩ := hd_ne N
    (repeat' (first | (k_unfold; (try dsimp only)) | (k_end; wrow_close) | ((with_reducible show wpAny _ _ (execs _ _) _ _ _); k_fold) | ((with_reducible show LCt.CompSrcT _ _ _ _ _ _ _ _ _ _ _ _ _ _ _); (refine stop_here ?_)) | ((with_reducible show wpAny _ _ (eval (PySem.Expr.ListComp _ _ _ _) _) _ _ _); (k_here; k_dflt (refine LCt.ListComp_T (F₀ := by k_asm) (by with_unfolding_all rfl) (by decide) (by rfl) (by decide) (by rfl) ?_))) | (k_here; (with_reducible show wpAny _ _ (call (Value.ref 83) _ _) _ _ _); (try dsimp only); k_dflt (refine' CallOk.use1 ((show ConvSpec _ _ _ by assumption) _ _ _ _ ?q1u95 ?q2u95) ?k1u95 ?k2u95 ?k3u95 ?k4u95 ?k5u95 ?kKu95 ?kdu95 ?kuu95 ?kpu95 ?_; (case k1u95 => k_asm); (case k2u95 => k_asm); (case k3u95 => k_asm); (case k4u95 => k_asm); (case k5u95 => k_asm); (case kKu95 => first | exact rfl | assumption); (case kdu95 => (first | exact room2 (by assumption) rfl | exact room1 (by assumption) rfl | exact room0 (by assumption) | exact blt rfl | ktr_room)); (case kuu95 => (first | exact room2 (by assumption) rfl | exact room1 (by assumption) rfl | exact room0 (by assumption) | exact blt rfl | ktr_units)); (case kpu95 => exact trivial); (case q1u95 => assumption); (case q2u95 => ((try simp only [List.length_append, List.length_cons, List.length_nil]); (first | assumption | exact Nat.le_trans (by assumption) (by decide) | exact Nat.lt_of_le_of_lt (by assumption) (by decide) | omega))); skip); intro zt9 zh9 ztk9 zF9 zN9 zst9; (try dsimp only); (try k_sweep)) | walk1 | (dsimp only; first | ((with_reducible show LCt.CompSrcT _ _ _ _ _ _ _ _ _ _ _ _ _ _ _); (refine stop_here ?_)) | ((with_reducible show wpAny _ _ (eval (PySem.Expr.ListComp _ _ _ _) _) _ _ _); (k_here; k_dflt (refine LCt.ListComp_T (F₀ := by k_asm) (by with_unfolding_all rfl) (by decide) (by rfl) (by decide) (by rfl) ?_))) | (k_here; (with_reducible show wpAny _ _ (call (Value.ref 83) _ _) _ _ _); (try dsimp only); k_dflt (refine' CallOk.use1 ((show ConvSpec _ _ _ by assumption) _ _ _ _ ?q1u98 ?q2u98) ?k1u98 ?k2u98 ?k3u98 ?k4u98 ?k5u98 ?kKu98 ?kdu98 ?kuu98 ?kpu98 ?_; (case k1u98 => k_asm); (case k2u98 => k_asm); (case k3u98 => k_asm); (case k4u98 => k_asm); (case k5u98 => k_asm); (case kKu98 => first | exact rfl | assumption); (case kdu98 => (first | exact room2 (by assumption) rfl | exact room1 (by assumption) rfl | exact room0 (by assumption) | exact blt rfl | ktr_room)); (case kuu98 => (first | exact room2 (by assumption) rfl | exact room1 (by assumption) rfl | exact room0 (by assumption) | exact blt rfl | ktr_units)); (case kpu98 => exact trivial); (case q1u98 => assumption); (case q2u98 => ((try simp only [List.length_append, List.length_cons, List.length_nil]); (first | assumption | exact Nat.le_trans (by assumption) (by decide) | exact Nat.lt_of_le_of_lt (by assumption) (by decide) | omega))); skip); intro zt9 zh9 ztk9 zF9 zN9 zst9; (try dsimp only); (try k_sweep)) | walk1) | ((simp only [List.cons_append, List.nil_append]); walk1) | (leave1; try dsimp only) | fail "no step"))
    refine Stopped.mk ?_
    have F1 := (by assumption : Fr g' L' _ _)
    have N1 := (by assumption : News g' L' _ ((L' + 1, _) :: _))
    refine LCt.CompSrcT.ledger rfl F1 N1 (by k_mem) (by rw [List.size_toArray, List.length_map, sizeLine_eq]; omega) (fun g => ?_)
    refine compT_inv (fun i ys news => news = (L' + 1, _) :: hdL w x d l t its n ∧ ys = hvals (delF name (its.take i))) ?turnv14 ?finv14 _ 0 [] _ (Nat.zero_add _) ⟨rfl, rfl⟩
    case turnv14 =>
      clear F1 N1
      rintro i ys news v I oI C oC D m₂ h tk E' hi ⟨rfl, rfl⟩ hv hC hx F2 N2 o1 o2
      obtain ⟨q, hq, rfl⟩ := val_at hv
      have hmem : q ∈ its := List.mem_of_getElem? hq
      have hkv : KvAt g' q.1 q.2 := hI0 q hmem
      have hq1 := (hl2 q hmem).1
      have hq2 := (hl2 q hmem).2
      dsimp only
      (repeat' (first | (k_unfold; (try dsimp only)) | (k_end; wrow_close) | ((with_reducible show wpAny _ _ (execs _ _) _ _ _); k_fold) | (k_here; (with_reducible show wpAny _ _ (subscriptTail _ _ (Value.ref _) (Value.int 0 _)) _ _ _); k_dflt (refine' r_kv0 ?k1u99 ?_ ?k6u99; (case k1u99 => (first | exact KvAt.keeps (by assumption) (Fr.keep (by assumption)))); (case k6u99 => with_unfolding_all rfl); k_whole); intro zt9) | walk1 | (dsimp only; first | (k_here; (with_reducible show wpAny _ _ (subscriptTail _ _ (Value.ref _) (Value.int 0 _)) _ _ _); k_dflt (refine' r_kv0 ?k1u100 ?_ ?k6u100; (case k1u100 => (first | exact KvAt.keeps (by assumption) (Fr.keep (by assumption)))); (case k6u100 => with_unfolding_all rfl); k_whole); intro zt9) | walk1) | ((simp only [List.cons_append, List.nil_append]); walk1) | (leave1; try dsimp only) | fail "no step"))
      · have hb := (by assumption : (Txt.lower q.2.1 != Txt.lower name) = true)
        exact LCg.CompEnd.intro F2 N2 _ (fun _ h => h) o1 (.inr ⟨_, by k_mem, rfl, _, rfl⟩) ⟨rfl, by rw [delF_at hq, if_pos hb, hvals_snoc]⟩
      · have hb := (by assumption : (Txt.lower q.2.1 != Txt.lower name) = false)
        exact LCg.CompEnd.intro F2 N2 _ (fun _ h => h) o1 (.inr ⟨_, by k_mem, rfl, _, rfl⟩) ⟨rfl, by rw [delF_at hq, if_neg (by rw [hb]; exact Bool.false_ne_true), List.append_nil]⟩
    case finv14 =>
      clear F1 N1
      rintro ys news ⟨rfl, rfl⟩
      have hfull : its.take (hvals its).toArray.size = its := by rw [List.size_toArray, List.length_map]; exact List.take_length
      rw [hfull]
      (repeat' (first | (k_unfold; (try dsimp only)) | (k_end; wrow_close) | ((with_reducible show wpAny _ _ (execs _ _) _ _ _); k_fold) | (k_here; (with_reducible show wpAny _ _ (setItem (Value.ref _) (Value.ref _) (Value.ref _)) _ _ _); k_dflt (refine' r_setSlice ?k1u101 ?k2u101 ?k3u101 ?k4u101 ?k5u101 ?k6u101 ?k7u101 ?_; (case k1u101 => k_asm); (case k2u101 => k_asm); (case k3u101 => k_mem); (case k4u101 => k_updF); (case k5u101 => (first | assumption | exact Nat.le_trans (by assumption) (by decide) | exact Nat.lt_of_le_of_lt (by assumption) (by decide) | omega)); (case k6u101 => (first | ((simp only [List.size_toArray, List.length_map]); (first | assumption | exact Nat.le_trans (by assumption) (by decide) | exact Nat.lt_of_le_of_lt (by assumption) (by decide) | omega)) | ((simp only [List.size_toArray, List.length_map]); exact Nat.le_trans delF_len (by (try simp only [List.length_take]); (first | assumption | exact Nat.le_trans (by assumption) (by decide) | exact Nat.lt_of_le_of_lt (by assumption) (by decide) | omega))))); (case k7u101 => (first | ((simp only [List.size_toArray, List.length_map]); (first | assumption | exact Nat.le_trans (by assumption) (by decide) | exact Nat.lt_of_le_of_lt (by assumption) (by decide) | omega)) | ((simp only [List.size_toArray, List.length_map]); exact Nat.le_trans delF_len (by (try simp only [List.length_take]); (first | assumption | exact Nat.le_trans (by assumption) (by decide) | exact Nat.lt_of_le_of_lt (by assumption) (by decide) | omega))))); k_whole); intro zn' zh' zF' zN') | walk1 | (dsimp only; first | (k_here; (with_reducible show wpAny _ _ (setItem (Value.ref _) (Value.ref _) (Value.ref _)) _ _ _); k_dflt (refine' r_setSlice ?k1u102 ?k2u102 ?k3u102 ?k4u102 ?k5u102 ?k6u102 ?k7u102 ?_; (case k1u102 => k_asm); (case k2u102 => k_asm); (case k3u102 => k_mem); (case k4u102 => k_updF); (case k5u102 => (first | assumption | exact Nat.le_trans (by assumption) (by decide) | exact Nat.lt_of_le_of_lt (by assumption) (by decide) | omega)); (case k6u102 => (first | ((simp only [List.size_toArray, List.length_map]); (first | assumption | exact Nat.le_trans (by assumption) (by decide) | exact Nat.lt_of_le_of_lt (by assumption) (by decide) | omega)) | ((simp only [List.size_toArray, List.length_map]); exact Nat.le_trans delF_len (by (try simp only [List.length_take]); (first | assumption | exact Nat.le_trans (by assumption) (by decide) | exact Nat.lt_of_le_of_lt (by assumption) (by decide) | omega))))); (case k7u102 => (first | ((simp only [List.size_toArray, List.length_map]); (first | assumption | exact Nat.le_trans (by assumption) (by decide) | exact Nat.lt_of_le_of_lt (by assumption) (by decide) | omega)) | ((simp only [List.size_toArray, List.length_map]); exact Nat.le_trans delF_len (by (try simp only [List.length_take]); (first | assumption | exact Nat.le_trans (by assumption) (by decide) | exact Nat.lt_of_le_of_lt (by assumption) (by decide) | omega))))); k_whole); intro zn' zh' zF' zN') | walk1) | ((simp only [List.cons_append, List.nil_append]); walk1) | (leave1; try dsimp only) | fail "no step"))
      exact hret _ _ _ _ ⟨_, rfl, rfl⟩ (by assumption) (show News h₀ L _ (hdL w x d l t (delF name its) _) from News.sub (by assumption) (fun p hp => .tail _ (.tail _ hp))) (by assumption)
  have get_ok : ∀ w, GetSpec Mine.main.heap_1_39 Mine.main.view_1_40 w := by
    intro w
    have S0 : ConvSpec Mine.main.heap_1_39 Mine.main.view_1_40 w := conv_ok w
    clear del_ok items_ok lenh_ok getall_ok conv_ok hfy_ok pop_ok push_ok su_ok sd_ok join_ok dirname_ok fspath_ok getsep_ok
    unfold GetSpec CallOk
    k_fill
    intro x d l t t2 its n name hl hn hcl mean mg mb dp un gd cn cs a ccd cl outer A₀ base h₀ L m s Q E B F X N T hk hd hu hpre hret
    refine wpAny_call ?_
    k_dflt (refine' plainG ?k1v15 ?k2v15 ?k3v15 ?k4v15 ?k5v15 ?kAv15 ?kFv15 ?kKv15 ?k6v15 ?k7v15 ?k8v15 ?k9v15 ?kBv15 ?_ ?c2v15 ?c3v15 ?c4v15 ?c5v15; (case kAv15 => exact rfl); (case kFv15 => exact rfl); (case kKv15 => assumption); (case k1v15 => k_asm); (case k2v15 => k_asm); (case k3v15 => k_asm); (case k4v15 => k_asm); (case k5v15 => k_asm); (case k6v15 => k_is); (case k7v15 => k_is); (case k8v15 => (first | exact room2 (by assumption) rfl | exact room1 (by assumption) rfl | exact room0 (by assumption) | exact blt rfl | ktr_room)); (case k9v15 => first | exact BindsTo.of_eq rfl | exact binds_K (by k_in) rfl (by k_is) rfl rfl rfl); (case kBv15 => exact locs rfl); (case c5v15 => decide); (case c2v15 => exact rfl); (case c3v15 => exact rfl); (case c4v15 => exact rfl); k_whole; intro g' L' h' FG' F' N' B' X' T' hg'; (try dsimp only); (try k_fold))
    have hI0 : HAt g' its := HAt.down hpre hg' N hd_ne_tuple
    obtain ⟨hl1, hl2⟩ := hl
    obtain ⟨hn1, hn2, hn3⟩ := hd_ne N
    (repeat' (first | (k_unfold; (try dsimp only)) | (k_end; wrow_close) | ((with_reducible show wpAny _ _ (execs _ _) _ _ _); k_fold) | ((with_reducible show wpAny _ _ (exec (Stmt.For (PySem.Expr.Tuple _ _ _) (PySem.Expr.Attribute _ _ _) _ _ _) _) _ _ _); (k_here; (with_unfolding_all refine' for_stop ?_ ?hsu103; (case hsu103 => exact fun _ => rfl); k_whole))) | (k_here; (with_reducible show wpAny _ _ (call (Value.ref 83) _ _) _ _ _); (try dsimp only); k_dflt (refine' CallOk.use1 ((show ConvSpec _ _ _ by assumption) _ _ _ _ ?q1u104 ?q2u104) ?k1u104 ?k2u104 ?k3u104 ?k4u104 ?k5u104 ?kKu104 ?kdu104 ?kuu104 ?kpu104 ?_; (case k1u104 => k_asm); (case k2u104 => k_asm); (case k3u104 => k_asm); (case k4u104 => k_asm); (case k5u104 => k_asm); (case kKu104 => first | exact rfl | assumption); (case kdu104 => (first | exact room2 (by assumption) rfl | exact room1 (by assumption) rfl | exact room0 (by assumption) | exact blt rfl | ktr_room)); (case kuu104 => (first | exact room2 (by assumption) rfl | exact room1 (by assumption) rfl | exact room0 (by assumption) | exact blt rfl | ktr_units)); (case kpu104 => exact trivial); (case q1u104 => assumption); (case q2u104 => ((try simp only [List.length_append, List.length_cons, List.length_nil]); (first | assumption | exact Nat.le_trans (by assumption) (by decide) | exact Nat.lt_of_le_of_lt (by assumption) (by decide) | omega))); skip); intro zt9 zh9 ztk9 zF9 zN9 zst9; (try dsimp only); (try k_sweep)) | walk1 | (dsimp only; first | ((with_reducible show wpAny _ _ (exec (Stmt.For (PySem.Expr.Tuple _ _ _) (PySem.Expr.Attribute _ _ _) _ _ _) _) _ _ _); (k_here; (with_unfolding_all refine' for_stop ?_ ?hsu105; (case hsu105 => exact fun _ => rfl); k_whole))) | (k_here; (with_reducible show wpAny _ _ (call (Value.ref 83) _ _) _ _ _); (try dsimp only); k_dflt (refine' CallOk.use1 ((show ConvSpec _ _ _ by assumption) _ _ _ _ ?q1u106 ?q2u106) ?k1u106 ?k2u106 ?k3u106 ?k4u106 ?k5u106 ?kKu106 ?kdu106 ?kuu106 ?kpu106 ?_; (case k1u106 => k_asm); (case k2u106 => k_asm); (case k3u106 => k_asm); (case k4u106 => k_asm); (case k5u106 => k_asm); (case kKu106 => first | exact rfl | assumption); (case kdu106 => (first | exact room2 (by assumption) rfl | exact room1 (by assumption) rfl | exact room0 (by assumption) | exact blt rfl | ktr_room)); (case kuu106 => (first | exact room2 (by assumption) rfl | exact room1 (by assumption) rfl | exact room0 (by assumption) | exact blt rfl | ktr_units)); (case kpu106 => exact trivial); (case q1u106 => assumption); (case q2u106 => ((try simp only [List.length_append, List.length_cons, List.length_nil]); (first | assumption | exact Nat.le_trans (by assumption) (by decide) | exact Nat.lt_of_le_of_lt (by assumption) (by decide) | omega))); skip); intro zt9 zh9 ztk9 zF9 zN9 zst9; (try dsimp only); (try k_sweep)) | walk1) | ((simp only [List.cons_append, List.nil_append]); walk1) | (leave1; try dsimp only) | fail "no step"))
    refine Stopped.mk ?_
    have F1 := (by assumption : Fr g' L' _ _)
    have N1 := (by assumption : News g' L' _ (hdL _ _ _ _ _ _ _))
    refine for_list (L := L') (its := hvals its) rfl rfl F1 N1 (fun i m led => led = hdL w x d l t its n ∧ (∃ tn, m (Str.ofString "name") = some (.str (Txt.lower name) tn)) ∧ m (Str.ofString "default") = some .none ∧ ((its.take i).find? fun q => Txt.lower q.2.1 == Txt.lower name) = none)
      (fun f st => Ex5 fun h tk m x' t' => And5 (st = { s with heap := h, toks := tk }) (Fr g' L' h m) (News g' L' h (hdL w x d l t its n)) (f = .ret (.str x' t')) (getF name its = some x')) ?hJv15 ⟨rfl, ⟨_, rfl⟩, rfl, rfl⟩ ?turnv15 ?restv15 ?otherv15 (fun I i s' v Q' hit q => letGo_listiter hit q)
    case hJv15 =>
      rintro i m led ⟨rfl, -⟩
      refine ⟨.inr ⟨_, .head _, rfl, _, rfl⟩, hd_ne_liter⟩
    case turnv15 =>
      clear F1 N1
      intro I i v m led oI h tk hi hv HH10 F1 N1 off
      (try ((with_reducible show wpAny _ _ _ _ _ _); k_fold))
      obtain ⟨rfl, ⟨tn, m1⟩, m2, hf⟩ := HH10
      obtain ⟨q, hq, rfl⟩ := val_at' hv
      have hmem : q ∈ its := List.mem_of_getElem? hq
      have hkv : KvAt g' q.1 q.2 := hI0 q hmem
      have hq1 := (hl2 q hmem).1
      have hq2 := (hl2 q hmem).2
      obtain ⟨ta, tb, htp⟩ := id hkv
      have hT : IsTup h q.1 #[.str q.2.1 ta, .str q.2.2 tb] := ⟨_, F1.keep _ _ htp, rfl, _, rfl⟩
      dsimp only
      (repeat' (first | (k_unfold; (try dsimp only)) | (k_end; wrow_close) | ((with_reducible show wpAny _ _ (execs _ _) _ _ _); k_fold) | ((with_reducible show wpAny _ _ (eval (PySem.Expr.Name _ _) _) _ _ _); (k_here; k_dflt (refine' PyProof.Rows.ld ?k1u107 ?k2u107 ?_; (case k1u107 => k_asm); (case k2u107 => first | with_reducible assumption | assumption); k_whole))) | walk1 | (dsimp only; first | ((with_reducible show wpAny _ _ (eval (PySem.Expr.Name _ _) _) _ _ _); (k_here; k_dflt (refine' PyProof.Rows.ld ?k1u108 ?k2u108 ?_; (case k1u108 => k_asm); (case k2u108 => first | with_reducible assumption | assumption); k_whole))) | walk1) | ((simp only [List.cons_append, List.nil_append]); walk1) | (leave1; try dsimp only) | fail "no step"))
      · have hb := (by assumption : (Txt.lower q.2.1 == Txt.lower name) = true)
        exact Stopped.mk ⟨_, _, _, _, _, rfl, by assumption, News.sub (by assumption) (fun p hp => .tail _ hp), rfl, find_at hq hf hb⟩
      · have hb := (by assumption : (Txt.lower q.2.1 == Txt.lower name) = false)
        have F2 := (by assumption : Fr g' L' _ _)
        exact Stopped.mk ⟨_, _, _, _, rfl, F2, by assumption, rfl, ⟨_, m1⟩, m2, find_not hq hf hb⟩
    case restv15 =>
      clear F1 N1
      rintro m led h tk ⟨rfl, ⟨tn, m1⟩, m2, hf⟩ F1 N1
      dsimp only
      (repeat' (first | (k_unfold; (try dsimp only)) | (k_end; wrow_close) | ((with_reducible show wpAny _ _ (execs _ _) _ _ _); k_fold) | ((with_reducible show wpAny _ _ (eval (PySem.Expr.Name _ _) _) _ _ _); (k_here; k_dflt (refine' PyProof.Rows.ld ?k1u109 ?k2u109 ?_; (case k1u109 => k_asm); (case k2u109 => first | with_reducible assumption | assumption); k_whole))) | walk1 | (dsimp only; first | ((with_reducible show wpAny _ _ (eval (PySem.Expr.Name _ _) _) _ _ _); (k_here; k_dflt (refine' PyProof.Rows.ld ?k1u110 ?k2u110 ?_; (case k1u110 => k_asm); (case k2u110 => first | with_reducible assumption | assumption); k_whole))) | walk1) | ((simp only [List.cons_append, List.nil_append]); walk1) | (leave1; try dsimp only) | fail "no step"))
      have hno : getF name its = none := by
        unfold getF
        rw [show (hvals its).length = its.length from List.length_map _, List.take_length] at hf
        rw [hf]; rfl
      exact hret _ _ _ _ ⟨t, by rw [hno]; rfl, rfl⟩ (by assumption) (show News h₀ L _ (hdL w x d l t its n) by assumption) (by assumption)
    case otherv15 =>
      clear F1 N1
      rintro f st ⟨h, tk, m, x', t', rfl, F1, N1, rfl, hf⟩
      dsimp only
      (repeat' (first | (k_unfold; (try dsimp only)) | (k_end; wrow_close) | ((with_reducible show wpAny _ _ (execs _ _) _ _ _); k_fold) | walk1 | (dsimp only; first | walk1) | ((simp only [List.cons_append, List.nil_append]); walk1) | (leave1; try dsimp only) | fail "no step"))
      exact hret _ _ _ _ ⟨t', by rw [hf]; rfl, rfl⟩ (by assumption) (show News h₀ L _ (hdL w x d l t its n) by assumption) (by assumption)
  have has_ok : ∀ w, ContainsSpec Mine.main.heap_1_39 Mine.main.view_1_40 w := by
    intro w
    have S0 : GetSpec Mine.main.heap_1_39 Mine.main.view_1_40 w := get_ok w
    clear get_ok del_ok items_ok lenh_ok getall_ok conv_ok hfy_ok pop_ok push_ok su_ok sd_ok join_ok dirname_ok fspath_ok getsep_ok
    unfold ContainsSpec CallOk
    k_fill
    intro x d l t t2 its n name hl hn hcl mean mg mb dp un gd cn cs a ccd cl outer A₀ base h₀ L m s Q E B F X N T hk hd hu hpre hret
    refine wpAny_call ?_
    k_dflt (refine' plainG ?k1v16 ?k2v16 ?k3v16 ?k4v16 ?k5v16 ?kAv16 ?kFv16 ?kKv16 ?k6v16 ?k7v16 ?k8v16 ?k9v16 ?kBv16 ?_ ?c2v16 ?c3v16 ?c4v16 ?c5v16; (case kAv16 => exact rfl); (case kFv16 => exact rfl); (case kKv16 => assumption); (case k1v16 => k_asm); (case k2v16 => k_asm); (case k3v16 => k_asm); (case k4v16 => k_asm); (case k5v16 => k_asm); (case k6v16 => k_is); (case k7v16 => k_is); (case k8v16 => (first | exact room2 (by assumption) rfl | exact room1 (by assumption) rfl | exact room0 (by assumption) | exact blt rfl | ktr_room)); (case k9v16 => first | exact BindsTo.of_eq rfl | exact binds_K (by k_in) rfl (by k_is) rfl rfl rfl); (case kBv16 => exact locs rfl); (case c5v16 => decide); (case c2v16 => exact rfl); (case c3v16 => exact rfl); (case c4v16 => exact rfl); k_whole; intro g' L' h' FG' F' N' B' X' T' hg'; (try dsimp only); (try k_fold))
    have hI0 : HAt g' its := HAt.down hpre hg' N hd_ne_tuple
    obtain ⟨hn1, hn2, hn3⟩ := hd_ne N
    (repeat' (first | (k_unfold; (try dsimp only)) | (k_end; wrow_close) | ((with_reducible show wpAny _ _ (execs _ _) _ _ _); k_fold) | (k_here; (with_reducible show wpAny _ _ (call (Value.ref 129) _ _) _ _ _); (try dsimp only); k_dflt (refine' CallOk.useU ((show GetSpec _ _ _ by assumption) _ _ _ _ _ _ _ _ ?q1u111 ?q2u111 ?q3u111) ?k1u111 ?k2u111 ?k3u111 ?k4u111 ?k5u111 ?kKu111 ?kdu111 ?kuu111 ?kpu111 ?h1u111 ?hUu111 ?_; (case k1u111 => k_asm); (case k2u111 => k_asm); (case k3u111 => k_asm); (case k4u111 => k_asm); (case k5u111 => k_asm); (case kKu111 => first | exact rfl | assumption); (case kdu111 => (first | exact room2 (by assumption) rfl | exact room1 (by assumption) rfl | exact room0 (by assumption) | exact blt rfl | ktr_room)); (case kuu111 => (first | exact room2 (by assumption) rfl | exact room1 (by assumption) rfl | exact room0 (by assumption) | exact blt rfl | ktr_units)); (case h1u111 => (refine List.forall_mem_cons.mpr ⟨by k_mem, List.forall_mem_cons.mpr ⟨by k_mem, List.forall_mem_nil _⟩⟩)); (case hUu111 => k_updF); (case kpu111 => (first | assumption | exact HAt.keeps (by assumption) (Fr.keep (by assumption)))); (case q1u111 => assumption); (case q2u111 => ((try simp only [List.length_append, List.length_cons, List.length_nil]); (first | assumption | exact Nat.le_trans (by assumption) (by decide) | exact Nat.lt_of_le_of_lt (by assumption) (by decide) | omega))); (case q3u111 => assumption); skip); intro zy9 zh9 ztk9 zF9 zN9 zst9; (try simp only [List.nil_append] at zN9); (try dsimp only); (try k_sweep)) | walk1 | (dsimp only; first | (k_here; (with_reducible show wpAny _ _ (call (Value.ref 129) _ _) _ _ _); (try dsimp only); k_dflt (refine' CallOk.useU ((show GetSpec _ _ _ by assumption) _ _ _ _ _ _ _ _ ?q1u112 ?q2u112 ?q3u112) ?k1u112 ?k2u112 ?k3u112 ?k4u112 ?k5u112 ?kKu112 ?kdu112 ?kuu112 ?kpu112 ?h1u112 ?hUu112 ?_; (case k1u112 => k_asm); (case k2u112 => k_asm); (case k3u112 => k_asm); (case k4u112 => k_asm); (case k5u112 => k_asm); (case kKu112 => first | exact rfl | assumption); (case kdu112 => (first | exact room2 (by assumption) rfl | exact room1 (by assumption) rfl | exact room0 (by assumption) | exact blt rfl | ktr_room)); (case kuu112 => (first | exact room2 (by assumption) rfl | exact room1 (by assumption) rfl | exact room0 (by assumption) | exact blt rfl | ktr_units)); (case h1u112 => (refine List.forall_mem_cons.mpr ⟨by k_mem, List.forall_mem_cons.mpr ⟨by k_mem, List.forall_mem_nil _⟩⟩)); (case hUu112 => k_updF); (case kpu112 => (first | assumption | exact HAt.keeps (by assumption) (Fr.keep (by assumption)))); (case q1u112 => assumption); (case q2u112 => ((try simp only [List.length_append, List.length_cons, List.length_nil]); (first | assumption | exact Nat.le_trans (by assumption) (by decide) | exact Nat.lt_of_le_of_lt (by assumption) (by decide) | omega))); (case q3u112 => assumption); skip); intro zy9 zh9 ztk9 zF9 zN9 zst9; (try simp only [List.nil_append] at zN9); (try dsimp only); (try k_sweep)) | walk1) | ((simp only [List.cons_append, List.nil_append]); walk1) | (leave1; try dsimp only) | fail "no step"))
    rcases hg : getF name its with _ | x' <;> simp only [hg, optV] at hret ⊢ <;> (repeat' (first | (k_unfold; (try dsimp only)) | (k_end; wrow_close) | ((with_reducible show wpAny _ _ (execs _ _) _ _ _); k_fold) | walk1 | (dsimp only; first | walk1) | ((simp only [List.cons_append, List.nil_append]); walk1) | (leave1; try dsimp only) | fail "no step"))
    · exact hret _ _ _ _ ⟨rfl, rfl⟩ (by assumption) (by assumption) (by assumption)
    · exact hret _ _ _ _ ⟨rfl, rfl⟩ (by assumption) (by assumption) (by assumption)
  have set_ok : ∀ w, SetSpec Mine.main.heap_1_39 Mine.main.view_1_40 w := by
    intro w
    have S0 : ConvSpec Mine.main.heap_1_39 Mine.main.view_1_40 w := conv_ok w
    have S1 : DelSpec Mine.main.heap_1_39 Mine.main.view_1_40 w := del_ok w
    clear has_ok get_ok del_ok items_ok lenh_ok getall_ok conv_ok hfy_ok pop_ok push_ok su_ok sd_ok join_ok dirname_ok fspath_ok getsep_ok
    unfold SetSpec CallOk
    k_fill
    intro x d l t t2 t3 its n name val hl hn hv hcn hcl hcv mean mg mb dp un gd cn cs a ccd cl outer A₀ base h₀ L m s Q E B F X N T hk hd hu hpre hret
    refine wpAny_call ?_
    k_dflt (refine' plainG ?k1v17 ?k2v17 ?k3v17 ?k4v17 ?k5v17 ?kAv17 ?kFv17 ?kKv17 ?k6v17 ?k7v17 ?k8v17 ?k9v17 ?kBv17 ?_ ?c2v17 ?c3v17 ?c4v17 ?c5v17; (case kAv17 => exact rfl); (case kFv17 => exact rfl); (case kKv17 => assumption); (case k1v17 => k_asm); (case k2v17 => k_asm); (case k3v17 => k_asm); (case k4v17 => k_asm); (case k5v17 => k_asm); (case k6v17 => k_is); (case k7v17 => k_is); (case k8v17 => (first | exact room2 (by assumption) rfl | exact room1 (by assumption) rfl | exact room0 (by assumption) | exact blt rfl | ktr_room)); (case k9v17 => first | exact BindsTo.of_eq rfl | exact binds_K (by k_in) rfl (by k_is) rfl rfl rfl); (case kBv17 => exact locs rfl); (case c5v17 => decide); (case c2v17 => exact rfl); (case c3v17 => exact rfl); (case c4v17 => exact rfl); k_whole; intro g' L' h' FG' F' N' B' X' T' hg'; (try dsimp only); (try k_fold))
    have hI0 : HAt g' its := HAt.down hpre hg' N hd_ne_tuple
    obtain ⟨hn1, hn2, hn3⟩ := hd_ne N
    have hl1 := hl.1
    (repeat' (first | (k_unfold; (try dsimp only)) | (k_end; wrow_close) | ((with_reducible show wpAny _ _ (execs _ _) _ _ _); k_fold) | (k_here; (with_reducible show wpAny _ _ (delItem (Value.ref _) _) _ _ _); k_dflt (refine' r_delItem ?Fu113 ?Xu113 ?Iu113 ?hQu113 ?hSu113 ?hFu113 ?_; (case Fu113 => k_asm); (case Xu113 => k_asm); (case Iu113 => k_inst); (case hSu113 => k_is); (case hFu113 => k_is); (case hQu113 => k_is); k_whole)) | ((with_reducible show wpAny _ _ (call (Value.builtin "list.append") _ _) _ _ _); (k_here; (show wpAny _ _ (call (Value.builtin _) [Value.ref _, _]) _ _ _); k_dflt (refine' rv_append ?k1u114 ?k2u114 ?k3u114 ?k4u114 ?_; (case k1u114 => k_asm); (case k2u114 => k_asm); (case k3u114 => k_updF); (case k4u114 => (first | ((simp only [List.length_map]); (first | assumption | exact Nat.le_trans (by assumption) (by decide) | exact Nat.lt_of_le_of_lt (by assumption) (by decide) | omega)) | ((simp only [List.length_map]); exact Nat.le_trans delF_len (by (first | assumption | exact Nat.le_trans (by assumption) (by decide) | exact Nat.lt_of_le_of_lt (by assumption) (by decide) | omega))))); k_whole); intro zh' zF' zN')) | (k_here; (with_reducible show wpAny _ _ (call (Value.ref 102) _ _) _ _ _); (try dsimp only); k_dflt (refine' CallOk.useU ((show DelSpec _ _ _ by assumption) _ _ _ _ _ _ _ _ ?q1u115 ?q2u115 ?q3u115) ?k1u115 ?k2u115 ?k3u115 ?k4u115 ?k5u115 ?kKu115 ?kdu115 ?kuu115 ?kpu115 ?h1u115 ?hUu115 ?_; (case k1u115 => k_asm); (case k2u115 => k_asm); (case k3u115 => k_asm); (case k4u115 => k_asm); (case k5u115 => k_asm); (case kKu115 => first | exact rfl | assumption); (case kdu115 => (first | exact room2 (by assumption) rfl | exact room1 (by assumption) rfl | exact room0 (by assumption) | exact blt rfl | ktr_room)); (case kuu115 => (first | exact room2 (by assumption) rfl | exact room1 (by assumption) rfl | exact room0 (by assumption) | exact blt rfl | ktr_units)); (case h1u115 => (refine List.forall_mem_cons.mpr ⟨by k_mem, List.forall_mem_cons.mpr ⟨by k_mem, List.forall_mem_nil _⟩⟩)); (case hUu115 => k_updF); (case kpu115 => (first | assumption | exact HAt.keeps (by assumption) (Fr.keep (by assumption)))); (case q1u115 => assumption); (case q2u115 => ((try simp only [List.length_append, List.length_cons, List.length_nil]); (first | assumption | exact Nat.le_trans (by assumption) (by decide) | exact Nat.lt_of_le_of_lt (by assumption) (by decide) | omega))); (case q3u115 => assumption); skip); intro zy9 zh9 ztk9 zF9 zN9 zst9; (try simp only [List.nil_append] at zN9); (try dsimp only); (try k_sweep)) | (k_here; (with_reducible show wpAny _ _ (call (Value.ref 83) _ _) _ _ _); (try dsimp only); k_dflt (refine' CallOk.use1 ((show ConvSpec _ _ _ by assumption) _ _ _ _ ?q1u116 ?q2u116) ?k1u116 ?k2u116 ?k3u116 ?k4u116 ?k5u116 ?kKu116 ?kdu116 ?kuu116 ?kpu116 ?_; (case k1u116 => k_asm); (case k2u116 => k_asm); (case k3u116 => k_asm); (case k4u116 => k_asm); (case k5u116 => k_asm); (case kKu116 => first | exact rfl | assumption); (case kdu116 => (first | exact room2 (by assumption) rfl | exact room1 (by assumption) rfl | exact room0 (by assumption) | exact blt rfl | ktr_room)); (case kuu116 => (first | exact room2 (by assumption) rfl | exact room1 (by assumption) rfl | exact room0 (by assumption) | exact blt rfl | ktr_units)); (case kpu116 => exact trivial); (case q1u116 => assumption); (case q2u116 => ((try simp only [List.length_append, List.length_cons, List.length_nil]); (first | assumption | exact Nat.le_trans (by assumption) (by decide) | exact Nat.lt_of_le_of_lt (by assumption) (by decide) | omega))); skip); intro zt9 zh9 ztk9 zF9 zN9 zst9; (try dsimp only); (try k_sweep)) | walk1 | (dsimp only; first | (k_here; (with_reducible show wpAny _ _ (delItem (Value.ref _) _) _ _ _); k_dflt (refine' r_delItem ?Fu117 ?Xu117 ?Iu117 ?hQu117 ?hSu117 ?hFu117 ?_; (case Fu117 => k_asm); (case Xu117 => k_asm); (case Iu117 => k_inst); (case hSu117 => k_is); (case hFu117 => k_is); (case hQu117 => k_is); k_whole)) | ((with_reducible show wpAny _ _ (call (Value.builtin "list.append") _ _) _ _ _); (k_here; (show wpAny _ _ (call (Value.builtin _) [Value.ref _, _]) _ _ _); k_dflt (refine' rv_append ?k1u118 ?k2u118 ?k3u118 ?k4u118 ?_; (case k1u118 => k_asm); (case k2u118 => k_asm); (case k3u118 => k_updF); (case k4u118 => (first | ((simp only [List.length_map]); (first | assumption | exact Nat.le_trans (by assumption) (by decide) | exact Nat.lt_of_le_of_lt (by assumption) (by decide) | omega)) | ((simp only [List.length_map]); exact Nat.le_trans delF_len (by (first | assumption | exact Nat.le_trans (by assumption) (by decide) | exact Nat.lt_of_le_of_lt (by assumption) (by decide) | omega))))); k_whole); intro zh' zF' zN')) | (k_here; (with_reducible show wpAny _ _ (call (Value.ref 102) _ _) _ _ _); (try dsimp only); k_dflt (refine' CallOk.useU ((show DelSpec _ _ _ by assumption) _ _ _ _ _ _ _ _ ?q1u119 ?q2u119 ?q3u119) ?k1u119 ?k2u119 ?k3u119 ?k4u119 ?k5u119 ?kKu119 ?kdu119 ?kuu119 ?kpu119 ?h1u119 ?hUu119 ?_; (case k1u119 => k_asm); (case k2u119 => k_asm); (case k3u119 => k_asm); (case k4u119 => k_asm); (case k5u119 => k_asm); (case kKu119 => first | exact rfl | assumption); (case kdu119 => (first | exact room2 (by assumption) rfl | exact room1 (by assumption) rfl | exact room0 (by assumption) | exact blt rfl | ktr_room)); (case kuu119 => (first | exact room2 (by assumption) rfl | exact room1 (by assumption) rfl | exact room0 (by assumption) | exact blt rfl | ktr_units)); (case h1u119 => (refine List.forall_mem_cons.mpr ⟨by k_mem, List.forall_mem_cons.mpr ⟨by k_mem, List.forall_mem_nil _⟩⟩)); (case hUu119 => k_updF); (case kpu119 => (first | assumption | exact HAt.keeps (by assumption) (Fr.keep (by assumption)))); (case q1u119 => assumption); (case q2u119 => ((try simp only [List.length_append, List.length_cons, List.length_nil]); (first | assumption | exact Nat.le_trans (by assumption) (by decide) | exact Nat.lt_of_le_of_lt (by assumption) (by decide) | omega))); (case q3u119 => assumption); skip); intro zy9 zh9 ztk9 zF9 zN9 zst9; (try simp only [List.nil_append] at zN9); (try dsimp only); (try k_sweep)) | (k_here; (with_reducible show wpAny _ _ (call (Value.ref 83) _ _) _ _ _); (try dsimp only); k_dflt (refine' CallOk.use1 ((show ConvSpec _ _ _ by assumption) _ _ _ _ ?q1u120 ?q2u120) ?k1u120 ?k2u120 ?k3u120 ?k4u120 ?k5u120 ?kKu120 ?kdu120 ?kuu120 ?kpu120 ?_; (case k1u120 => k_asm); (case k2u120 => k_asm); (case k3u120 => k_asm); (case k4u120 => k_asm); (case k5u120 => k_asm); (case kKu120 => first | exact rfl | assumption); (case kdu120 => (first | exact room2 (by assumption) rfl | exact room1 (by assumption) rfl | exact room0 (by assumption) | exact blt rfl | ktr_room)); (case kuu120 => (first | exact room2 (by assumption) rfl | exact room1 (by assumption) rfl | exact room0 (by assumption) | exact blt rfl | ktr_units)); (case kpu120 => exact trivial); (case q1u120 => assumption); (case q2u120 => ((try simp only [List.length_append, List.length_cons, List.length_nil]); (first | assumption | exact Nat.le_trans (by assumption) (by decide) | exact Nat.lt_of_le_of_lt (by assumption) (by decide) | omega))); skip); intro zt9 zh9 ztk9 zF9 zN9 zst9; (try dsimp only); (try k_sweep)) | walk1) | ((simp only [List.cons_append, List.nil_append]); walk1) | (leave1; try dsimp only) | fail "no step"))
    have N4 := (by assumption : News h₀ L _ ((_, tup2 [.str name t2, .str val t3]) :: _))
    have e : ∀ D : Addr, hvals (delF name its) ++ [Value.ref D] = hvals (delF name its ++ [(D, (name, val))]) := fun D => by simp [hvals]
    rw [e] at N4
    exact hret _ _ _ _ ⟨(_, t2, t3, _), rfl, rfl⟩ (by assumption) N4 (by assumption)
  have add_ok : ∀ w, AddSpec Mine.main.heap_1_39 Mine.main.view_1_40 w := by
    intro w
    have S0 : ConvSpec Mine.main.heap_1_39 Mine.main.view_1_40 w := conv_ok w
    clear set_ok has_ok get_ok del_ok items_ok lenh_ok getall_ok conv_ok hfy_ok pop_ok push_ok su_ok sd_ok join_ok dirname_ok fspath_ok getsep_ok
    unfold AddSpec CallOk
    k_fill
    intro x d l t t2 t3 its n name val hl hn hv hcn hcv mean mg mb dp un gd cn cs a ccd cl outer A₀ base h₀ L m s Q E B F X N T hk hd hu hpre hret
    refine wpAny_call ?_
    k_dflt (refine' restG ?k1v18 ?k2v18 ?k3v18 ?k4v18 ?k5v18 ?kAv18 ?kFv18 ?kKv18 ?k6v18 ?k7v18 ?k8v18 ?kPv18 ?kLv18 ?kGv18 ?kBv18 ?_ ?c2v18 ?c3v18 ?c4v18 ?c5v18; (case kAv18 => exact rfl); (case kFv18 => exact rfl); (case kKv18 => assumption); (case k1v18 => k_asm); (case k2v18 => k_asm); (case k3v18 => k_asm); (case k4v18 => k_asm); (case k5v18 => k_asm); (case k6v18 => k_is); (case k7v18 => k_is); (case k8v18 => (first | exact room2 (by assumption) rfl | exact room1 (by assumption) rfl | exact room0 (by assumption) | exact blt rfl | ktr_room)); (case kPv18 => exact rfl); (case kLv18 => exact rfl); (case kGv18 => exact fun _ => rfl); (case kBv18 => exact fun _ => locs rfl); (case c5v18 => decide); (case c2v18 => exact rfl); (case c3v18 => exact rfl); (case c4v18 => exact rfl); k_whole; intro D' g' L' h' l1 lo FG' F' N' B' X' T' hg'; (try k_lt l1); (try dsimp only); (try k_fold))
    have hI0 : HAt g' its := HAt.down hpre hg' N hd_ne_tuple
    obtain ⟨hn1, hn2, hn3⟩ := hd_ne N
    have hl1 := hl.1
    (repeat' (first | (k_unfold; (try dsimp only)) | (k_end; wrow_close) | ((with_reducible show wpAny _ _ (execs _ _) _ _ _); k_fold) | (k_here; (with_reducible show wpAny _ _ (call (Value.ref 83) _ _) _ _ _); (try dsimp only); k_dflt (refine' CallOk.use1 ((show ConvSpec _ _ _ by assumption) _ _ _ _ ?q1u121 ?q2u121) ?k1u121 ?k2u121 ?k3u121 ?k4u121 ?k5u121 ?kKu121 ?kdu121 ?kuu121 ?kpu121 ?_; (case k1u121 => k_asm); (case k2u121 => k_asm); (case k3u121 => k_asm); (case k4u121 => k_asm); (case k5u121 => k_asm); (case kKu121 => first | exact rfl | assumption); (case kdu121 => (first | exact room2 (by assumption) rfl | exact room1 (by assumption) rfl | exact room0 (by assumption) | exact blt rfl | ktr_room)); (case kuu121 => (first | exact room2 (by assumption) rfl | exact room1 (by assumption) rfl | exact room0 (by assumption) | exact blt rfl | ktr_units)); (case kpu121 => exact trivial); (case q1u121 => assumption); (case q2u121 => ((try simp only [List.length_append, List.length_cons, List.length_nil]); (first | assumption | exact Nat.le_trans (by assumption) (by decide) | exact Nat.lt_of_le_of_lt (by assumption) (by decide) | omega))); skip); intro zt9 zh9 ztk9 zF9 zN9 zst9; (try dsimp only); (try k_sweep)) | walk1 | (dsimp only; first | (k_here; (with_reducible show wpAny _ _ (call (Value.ref 83) _ _) _ _ _); (try dsimp only); k_dflt (refine' CallOk.use1 ((show ConvSpec _ _ _ by assumption) _ _ _ _ ?q1u122 ?q2u122) ?k1u122 ?k2u122 ?k3u122 ?k4u122 ?k5u122 ?kKu122 ?kdu122 ?kuu122 ?kpu122 ?_; (case k1u122 => k_asm); (case k2u122 => k_asm); (case k3u122 => k_asm); (case k4u122 => k_asm); (case k5u122 => k_asm); (case kKu122 => first | exact rfl | assumption); (case kdu122 => (first | exact room2 (by assumption) rfl | exact room1 (by assumption) rfl | exact room0 (by assumption) | exact blt rfl | ktr_room)); (case kuu122 => (first | exact room2 (by assumption) rfl | exact room1 (by assumption) rfl | exact room0 (by assumption) | exact blt rfl | ktr_units)); (case kpu122 => exact trivial); (case q1u122 => assumption); (case q2u122 => ((try simp only [List.length_append, List.length_cons, List.length_nil]); (first | assumption | exact Nat.le_trans (by assumption) (by decide) | exact Nat.lt_of_le_of_lt (by assumption) (by decide) | omega))); skip); intro zt9 zh9 ztk9 zF9 zN9 zst9; (try dsimp only); (try k_sweep)) | walk1) | ((simp only [List.cons_append, List.nil_append]); walk1) | (leave1; try dsimp only) | fail "no step"))
    have F1 := (by assumption : Fr g' L' _ _)
    have N1 := (by assumption : News g' L' _ (_ :: (D', _) :: _))
    with_unfolding_all ((refine' For_turns F1 ?_); (refine MethodCall_ ?_); (refine ld F1 (by rfl) ?_); (refine getMethod_tab (knd := PySem.strKind _ _) (enc := PyData.str) PySem.F.slot_dict_items PySem.F.type_dict_items (tab_empty lo (N1 (D', _) (.tail _ (.head _))).1) ?_); (refine callWith_method0 ?_); (refine call_items_tab (knd := PySem.strKind _ _) (enc := PyData.str) (tab_empty lo (N1 (D', _) (.tail _ (.head _))).1) F1 N1 ?_); intro h2 o2 hv2 F2 N2; (replace N2 := kti_tail N2); (refine kti_items (knd := PySem.strKind _ _) (enc := PyData.str) (xs := []) (by rfl) F2 N2 hv2 (tab_empty lo (N2 (D', _) (.tail _ (.head _))).1) (.tail _ (.head _)) (fun _ _ h => Value.isStrOf_shape h) (by rfl) ?_))
    clear F1 N1 F2 N2
    intro i' l2
    (repeat' (first | (k_unfold; (try dsimp only)) | (k_end; wrow_close) | ((with_reducible show wpAny _ _ (execs _ _) _ _ _); k_fold) | ((with_reducible show wpAny _ _ (call (Value.builtin "list.append") _ _) _ _ _); (k_here; (show wpAny _ _ (call (Value.builtin _) [Value.ref _, _]) _ _ _); k_dflt (refine' rv_append ?k1u123 ?k2u123 ?k3u123 ?k4u123 ?_; (case k1u123 => k_asm); (case k2u123 => k_asm); (case k3u123 => k_updF); (case k4u123 => (first | ((simp only [List.length_map]); (first | assumption | exact Nat.le_trans (by assumption) (by decide) | exact Nat.lt_of_le_of_lt (by assumption) (by decide) | omega)) | ((simp only [List.length_map]); exact Nat.le_trans delF_len (by (first | assumption | exact Nat.le_trans (by assumption) (by decide) | exact Nat.lt_of_le_of_lt (by assumption) (by decide) | omega))))); k_whole); intro zh' zF' zN')) | (k_here; (with_reducible show wpAny _ _ (call (Value.ref 83) _ _) _ _ _); (try dsimp only); k_dflt (refine' CallOk.use1 ((show ConvSpec _ _ _ by assumption) _ _ _ _ ?q1u124 ?q2u124) ?k1u124 ?k2u124 ?k3u124 ?k4u124 ?k5u124 ?kKu124 ?kdu124 ?kuu124 ?kpu124 ?_; (case k1u124 => k_asm); (case k2u124 => k_asm); (case k3u124 => k_asm); (case k4u124 => k_asm); (case k5u124 => k_asm); (case kKu124 => first | exact rfl | assumption); (case kdu124 => (first | exact room2 (by assumption) rfl | exact room1 (by assumption) rfl | exact room0 (by assumption) | exact blt rfl | ktr_room)); (case kuu124 => (first | exact room2 (by assumption) rfl | exact room1 (by assumption) rfl | exact room0 (by assumption) | exact blt rfl | ktr_units)); (case kpu124 => exact trivial); (case q1u124 => assumption); (case q2u124 => ((try simp only [List.length_append, List.length_cons, List.length_nil]); (first | assumption | exact Nat.le_trans (by assumption) (by decide) | exact Nat.lt_of_le_of_lt (by assumption) (by decide) | omega))); skip); intro zt9 zh9 ztk9 zF9 zN9 zst9; (try dsimp only); (try k_sweep)) | walk1 | (dsimp only; first | ((with_reducible show wpAny _ _ (call (Value.builtin "list.append") _ _) _ _ _); (k_here; (show wpAny _ _ (call (Value.builtin _) [Value.ref _, _]) _ _ _); k_dflt (refine' rv_append ?k1u125 ?k2u125 ?k3u125 ?k4u125 ?_; (case k1u125 => k_asm); (case k2u125 => k_asm); (case k3u125 => k_updF); (case k4u125 => (first | ((simp only [List.length_map]); (first | assumption | exact Nat.le_trans (by assumption) (by decide) | exact Nat.lt_of_le_of_lt (by assumption) (by decide) | omega)) | ((simp only [List.length_map]); exact Nat.le_trans delF_len (by (first | assumption | exact Nat.le_trans (by assumption) (by decide) | exact Nat.lt_of_le_of_lt (by assumption) (by decide) | omega))))); k_whole); intro zh' zF' zN')) | (k_here; (with_reducible show wpAny _ _ (call (Value.ref 83) _ _) _ _ _); (try dsimp only); k_dflt (refine' CallOk.use1 ((show ConvSpec _ _ _ by assumption) _ _ _ _ ?q1u126 ?q2u126) ?k1u126 ?k2u126 ?k3u126 ?k4u126 ?k5u126 ?kKu126 ?kdu126 ?kuu126 ?kpu126 ?_; (case k1u126 => k_asm); (case k2u126 => k_asm); (case k3u126 => k_asm); (case k4u126 => k_asm); (case k5u126 => k_asm); (case kKu126 => first | exact rfl | assumption); (case kdu126 => (first | exact room2 (by assumption) rfl | exact room1 (by assumption) rfl | exact room0 (by assumption) | exact blt rfl | ktr_room)); (case kuu126 => (first | exact room2 (by assumption) rfl | exact room1 (by assumption) rfl | exact room0 (by assumption) | exact blt rfl | ktr_units)); (case kpu126 => exact trivial); (case q1u126 => assumption); (case q2u126 => ((try simp only [List.length_append, List.length_cons, List.length_nil]); (first | assumption | exact Nat.le_trans (by assumption) (by decide) | exact Nat.lt_of_le_of_lt (by assumption) (by decide) | omega))); skip); intro zt9 zh9 ztk9 zF9 zN9 zst9; (try dsimp only); (try k_sweep)) | walk1) | ((simp only [List.cons_append, List.nil_append]); walk1) | (leave1; try dsimp only) | fail "no step"))
    have hj : Txt.join (Str.ofString "; ") [val] = val := join_one
    rw [hj] at *
    have N4 := (by assumption : News h₀ L _ ((_, tup2 [.str name t2, .str val _]) :: _))
    have e : ∀ D : Addr, hvals its ++ [Value.ref D] = hvals (its ++ [(D, (name, val))]) := fun D => by simp [hvals]
    rw [e] at N4
    exact hret _ _ _ _ ⟨(_, t2, _, _), rfl, rfl⟩ (by assumption) (show News h₀ L _ ((_, tup2 [.str name t2, .str val _]) :: hdL w x d l t (its ++ [(_, (name, val))]) _) from News.sub N4 (fun p hp => by
      rcases List.mem_cons.mp hp with rfl | hp
      · exact .head _
      · exact .tail _ (.tail _ (.tail _ hp)))) (by assumption)
  have over_ok : ∀ w, OverSpec Mine.main.heap_1_39 Mine.main.view_1_40 w := by
    intro w
    clear add_ok set_ok has_ok get_ok del_ok items_ok lenh_ok getall_ok conv_ok hfy_ok pop_ok push_ok su_ok sd_ok join_ok dirname_ok fspath_ok getsep_ok
    unfold OverSpec CallOk
    k_fill
    intro P ns hl mean mg mb dp un gd cn cs a ccd cl outer A₀ base h₀ L m s Q E B F X N T hk hd hu hpre hret
    refine wpAny_call ?_
    k_dflt (refine' plainG ?k1v19 ?k2v19 ?k3v19 ?k4v19 ?k5v19 ?kAv19 ?kFv19 ?kKv19 ?k6v19 ?k7v19 ?k8v19 ?k9v19 ?kBv19 ?_ ?c2v19 ?c3v19 ?c4v19 ?c5v19; (case kAv19 => exact rfl); (case kFv19 => exact rfl); (case kKv19 => assumption); (case k1v19 => k_asm); (case k2v19 => k_asm); (case k3v19 => k_asm); (case k4v19 => k_asm); (case k5v19 => k_asm); (case k6v19 => k_is); (case k7v19 => k_is); (case k8v19 => (first | exact room2 (by assumption) rfl | exact room1 (by assumption) rfl | exact room0 (by assumption) | exact blt rfl | ktr_room)); (case k9v19 => first | exact BindsTo.of_eq rfl | exact binds_K (by k_in) rfl (by k_is) rfl rfl rfl); (case kBv19 => exact locs rfl); (case c5v19 => decide); (case c2v19 => exact rfl); (case c3v19 => exact rfl); (case c4v19 => exact rfl); k_whole; intro g' L' h' FG' F' N' B' X' T' hg'; (try dsimp only); (try k_fold))
    obtain ⟨ts, k, rfl, hP⟩ := hpre
    have hP0 : g'.get? P = some (listOf (valsN ts).toArray k) := hg' _ _ hP (by simp)
    (repeat' (first | (k_unfold; (try dsimp only)) | (k_end; wrow_close) | ((with_reducible show wpAny _ _ (execs _ _) _ _ _); k_fold) | ((with_reducible show wpAny _ _ (exec (Stmt.For (PySem.Expr.Name _ _) (PySem.Expr.Name _ _) _ _ _) _) _ _ _); (k_here; (with_unfolding_all refine' for_stop ?_ ?hsu127; (case hsu127 => exact fun _ => rfl); k_whole))) | walk1 | (dsimp only; first | ((with_reducible show wpAny _ _ (exec (Stmt.For (PySem.Expr.Name _ _) (PySem.Expr.Name _ _) _ _ _) _) _ _ _); (k_here; (with_unfolding_all refine' for_stop ?_ ?hsu128; (case hsu128 => exact fun _ => rfl); k_whole))) | walk1) | ((simp only [List.cons_append, List.nil_append]); walk1) | (leave1; try dsimp only) | fail "no step"))
    refine Stopped.mk ?_
    have F1 := (by assumption : Fr g' L' _ _)
    have N1 := (by assumption : News g' L' _ [_])
    refine for_list (L := L') (its := valsN ts) rfl rfl F1 N1 (fun i m led => ∃ (D : Addr) (os : TI) (kk : Nat), led = [(D, listOf (valsN os).toArray kk)] ∧ m (Str.ofString "over") = some (.ref D) ∧ os.map (·.1) = overF ((ts.map (·.1)).take i)) (fun _ _ => False) ?hJv19 ⟨_, [(0, _)], _, rfl, rfl, rfl⟩ ?turnv19 ?restv19 (fun _ _ h => h.elim) go_name
    case hJv19 =>
      rintro i m led ⟨D, os, kk, rfl, -⟩
      refine ⟨.inl ⟨_, hP0, rfl, _, rfl⟩, fun p hp => ?_⟩
      rw [List.mem_singleton.mp hp]
      exact fun e => absurd (Value.type.inj e) (by decide)
    case turnv19 =>
      clear F1 N1
      intro I i v m led oI h tk hi hv HH10 F1 N1 off
      (try ((with_reducible show wpAny _ _ _ _ _ _); k_fold))
      obtain ⟨D, os, kk, rfl, m1, hos⟩ := HH10
      have hne := off _ List.mem_cons_self
      dsimp only at hne
      obtain ⟨q, hq, rfl⟩ := val_at' hv
      have hlen : os.length = (ts.map (·.1)).length.min i + 1 := by
        have := congrArg List.length hos
        rw [List.length_map, overF_len, List.length_take] at this
        rw [this, Nat.min_comm]
      have hol : os.length ≤ 200 := by rw [hlen]; exact Nat.succ_le_succ (Nat.le_trans (Nat.min_le_left _ _) (by omega))
      have hop : 0 < os.length := by omega
      have hvl : (valsN os).length = os.length := List.length_map _
      dsimp only
      (repeat' (first | (k_unfold; (try dsimp only)) | (k_end; wrow_close) | ((with_reducible show wpAny _ _ (execs _ _) _ _ _); k_fold) | ((with_reducible show wpAny _ _ (eval (PySem.Expr.Name _ _) _) _ _ _); (k_here; k_dflt (refine' PyProof.Rows.ld ?k1u129 ?k2u129 ?_; (case k1u129 => k_asm); (case k2u129 => first | with_reducible assumption | assumption); k_whole))) | ((with_reducible show wpAny _ _ (call (Value.builtin "list.append") _ _) _ _ _); (k_here; (show wpAny _ _ (call (Value.builtin _) [Value.ref _, _]) _ _ _); k_dflt (refine' rv_append ?k1u130 ?k2u130 ?k3u130 ?k4u130 ?_; (case k1u130 => k_asm); (case k2u130 => k_asm); (case k3u130 => k_updF); (case k4u130 => ((try simp only [List.length_map, List.length_append, List.length_cons, List.length_nil]); (first | assumption | exact Nat.le_trans (by assumption) (by decide) | exact Nat.lt_of_le_of_lt (by assumption) (by decide) | omega))); k_whole); intro zh' zF' zN')) | ((with_reducible show wpAny _ _ (call (Value.builtin "len") _ _) _ _ _); (k_here; (show wpAny _ _ (call (Value.builtin _) [Value.ref _]) _ _ _); k_dflt (refine' rv_len ?k1u131 ?k2u131 ?k4u131 ?_; (case k1u131 => k_asm); (case k2u131 => k_mem); (case k4u131 => ((try simp only [List.length_map, List.length_append, List.length_cons, List.length_nil]); (first | assumption | exact Nat.le_trans (by assumption) (by decide) | exact Nat.lt_of_le_of_lt (by assumption) (by decide) | omega))); k_whole); intro zt9 zk9)) | walk1 | (dsimp only; first | ((with_reducible show wpAny _ _ (eval (PySem.Expr.Name _ _) _) _ _ _); (k_here; k_dflt (refine' PyProof.Rows.ld ?k1u132 ?k2u132 ?_; (case k1u132 => k_asm); (case k2u132 => first | with_reducible assumption | assumption); k_whole))) | ((with_reducible show wpAny _ _ (call (Value.builtin "list.append") _ _) _ _ _); (k_here; (show wpAny _ _ (call (Value.builtin _) [Value.ref _, _]) _ _ _); k_dflt (refine' rv_append ?k1u133 ?k2u133 ?k3u133 ?k4u133 ?_; (case k1u133 => k_asm); (case k2u133 => k_asm); (case k3u133 => k_updF); (case k4u133 => ((try simp only [List.length_map, List.length_append, List.length_cons, List.length_nil]); (first | assumption | exact Nat.le_trans (by assumption) (by decide) | exact Nat.lt_of_le_of_lt (by assumption) (by decide) | omega))); k_whole); intro zh' zF' zN')) | ((with_reducible show wpAny _ _ (call (Value.builtin "len") _ _) _ _ _); (k_here; (show wpAny _ _ (call (Value.builtin _) [Value.ref _]) _ _ _); k_dflt (refine' rv_len ?k1u134 ?k2u134 ?k4u134 ?_; (case k1u134 => k_asm); (case k2u134 => k_mem); (case k4u134 => ((try simp only [List.length_map, List.length_append, List.length_cons, List.length_nil]); (first | assumption | exact Nat.le_trans (by assumption) (by decide) | exact Nat.lt_of_le_of_lt (by assumption) (by decide) | omega))); k_whole); intro zt9 zk9)) | walk1) | ((simp only [List.cons_append, List.nil_append]); walk1) | (leave1; try dsimp only) | fail "no step"))
      · have F2 := (by assumption : Fr g' L' _ _)
        refine Stopped.mk ⟨_, _, _, _, rfl, F2, by assumption, D, os ++ [(_, _)], _, by rw [valsN_snoc], m1, ?_⟩
        rw [List.map_append, hos, overF_take (by rw [List.getElem?_map, hq]; rfl), hvl]
        unfold overStep
        rw [← hos, List.length_map]
        rfl
    case restv19 =>
      clear F1 N1
      rintro m led h tk ⟨D, os, kk, rfl, m1, hos⟩ F1 N1
      have hfull : (ts.map (·.1)).take (valsN ts).length = ts.map (·.1) := by rw [List.length_map, ← List.length_map (f := fun q : Int × Tok => q.1) (as := ts)]; exact List.take_length
      rw [hfull] at hos
      dsimp only
      (repeat' (first | (k_unfold; (try dsimp only)) | (k_end; wrow_close) | ((with_reducible show wpAny _ _ (execs _ _) _ _ _); k_fold) | ((with_reducible show wpAny _ _ (eval (PySem.Expr.Name _ _) _) _ _ _); (k_here; k_dflt (refine' PyProof.Rows.ld ?k1u135 ?k2u135 ?_; (case k1u135 => k_asm); (case k2u135 => first | with_reducible assumption | assumption); k_whole))) | walk1 | (dsimp only; first | ((with_reducible show wpAny _ _ (eval (PySem.Expr.Name _ _) _) _ _ _); (k_here; k_dflt (refine' PyProof.Rows.ld ?k1u136 ?k2u136 ?_; (case k1u136 => k_asm); (case k2u136 => first | with_reducible assumption | assumption); k_whole))) | walk1) | ((simp only [List.cons_append, List.nil_append]); walk1) | (leave1; try dsimp only) | fail "no step"))
      exact hret _ _ _ _ ⟨(_, ⟨os, hos⟩, _), rfl, rfl⟩ (by assumption) (by assumption) (by assumption)
  have places_ok : ∀ w, PlacesSpec Mine.main.heap_1_39 Mine.main.view_1_40 w := by
    intro w
    have S0 : JoinSpec Mine.main.heap_1_39 Mine.main.view_1_40 w := join_ok w
    clear over_ok add_ok set_ok has_ok get_ok del_ok items_ok lenh_ok getall_ok conv_ok hfy_ok pop_ok push_ok su_ok sd_ok join_ok dirname_ok fspath_ok getsep_ok
    unfold PlacesSpec CallOk
    k_fill
    intro O over ho mean mg mb dp un gd cn cs a ccd cl outer A₀ base h₀ L m s Q E B F X N T hk hd hu hpre hret
    refine wpAny_call ?_
    k_dflt (refine' plainG ?k1v20 ?k2v20 ?k3v20 ?k4v20 ?k5v20 ?kAv20 ?kFv20 ?kKv20 ?k6v20 ?k7v20 ?k8v20 ?k9v20 ?kBv20 ?_ ?c2v20 ?c3v20 ?c4v20 ?c5v20; (case kAv20 => exact rfl); (case kFv20 => exact rfl); (case kKv20 => assumption); (case k1v20 => k_asm); (case k2v20 => k_asm); (case k3v20 => k_asm); (case k4v20 => k_asm); (case k5v20 => k_asm); (case k6v20 => k_is); (case k7v20 => k_is); (case k8v20 => (first | exact room2 (by assumption) rfl | exact room1 (by assumption) rfl | exact room0 (by assumption) | exact blt rfl | ktr_room)); (case k9v20 => first | exact BindsTo.of_eq rfl | exact binds_K (by k_in) rfl (by k_is) rfl rfl rfl); (case kBv20 => exact locs rfl); (case c5v20 => decide); (case c2v20 => exact rfl); (case c3v20 => exact rfl); (case c4v20 => exact rfl); k_whole; intro g' L' h' FG' F' N' B' X' T' hg'; (try dsimp only); (try k_fold))
    obtain ⟨ho1, ho2, ho3⟩ := ho
    have hO : IntsAt g' O over := IntsAt.keeps hpre (fun b o e => hg' b o e (by simp))
    (repeat' (first | (k_unfold; (try dsimp only)) | (k_end; wrow_close) | ((with_reducible show wpAny _ _ (execs _ _) _ _ _); k_fold) | ((with_reducible show wpAny _ _ (exec (Stmt.For (PySem.Expr.Name _ _) (PySem.Expr.Call _ _ _ _) _ _ _) _) _ _ _); (k_here; (with_unfolding_all refine' for_stop ?_ ?hsu137; (case hsu137 => exact fun _ => rfl); k_whole))) | ((with_reducible show wpAny _ _ (call (Value.builtin "len") _ _) _ _ _); (k_here; (show wpAny _ _ (call (Value.builtin _) [Value.ref _]) _ _ _); k_dflt (refine' rb_len ?k1u138 ?k4u138 ?_; (case k1u138 => exact IntsAt.keeps (by assumption) (Fr.keep (by assumption))); (case k4u138 => (first | assumption | exact Nat.le_trans (by assumption) (by decide) | exact Nat.lt_of_le_of_lt (by assumption) (by decide) | omega)); k_whole); intro zt9 zk9)) | walk1 | (dsimp only; first | ((with_reducible show wpAny _ _ (exec (Stmt.For (PySem.Expr.Name _ _) (PySem.Expr.Call _ _ _ _) _ _ _) _) _ _ _); (k_here; (with_unfolding_all refine' for_stop ?_ ?hsu139; (case hsu139 => exact fun _ => rfl); k_whole))) | ((with_reducible show wpAny _ _ (call (Value.builtin "len") _ _) _ _ _); (k_here; (show wpAny _ _ (call (Value.builtin _) [Value.ref _]) _ _ _); k_dflt (refine' rb_len ?k1u140 ?k4u140 ?_; (case k1u140 => exact IntsAt.keeps (by assumption) (Fr.keep (by assumption))); (case k4u140 => (first | assumption | exact Nat.le_trans (by assumption) (by decide) | exact Nat.lt_of_le_of_lt (by assumption) (by decide) | omega)); k_whole); intro zt9 zk9)) | walk1) | ((simp only [List.cons_append, List.nil_append]); walk1) | (leave1; try dsimp only) | fail "no step"))
    refine Stopped.mk ?_
    have F1 := (by assumption : Fr g' L' _ _)
    have N1 := (by assumption : News g' L' _ [_])
    refine for_range (L := L') (n := over.length - 1) rfl rfl (by assumption) (rsmall1 (by decide) (by decide) (by omega) (by omega)) (by rw [rsize1]; omega) F1 N1 (fun i m led => Ex3 fun (D : Addr) (os : TS) (kk : Nat) => And6 (led = [(D, listOf (valsS os).toArray kk)]) (m (Str.ofString "places") = some (.ref D)) (m (Str.ofString "over") = some (.ref O)) (os.length = i + 1) (os.map (·.1) = placesN over i) ((∀ x ∈ os.map (·.1), 1 ≤ x.length ∧ x.length ≤ 2 * i + 1))) (fun _ _ => False) ?hJv20 ⟨_, [(Str.ofString "/", _)], _, rfl, rfl, rfl, rfl, rfl, fun x hx => by rw [List.mem_singleton.mp hx]; exact slash_len⟩ ?turnv20 ?restv20 (fun _ _ h => h.elim)
    case hJv20 =>
      rintro i m led ⟨D, os, kk, rfl, -⟩ p hp
      rw [List.mem_singleton.mp hp]
      exact fun e => absurd (Value.type.inj e) (by decide)
    case turnv20 =>
      clear F1 N1
      intro I i t m led oI h tk hi HH9 F1 N1 off
      (try ((with_reducible show wpAny _ _ _ _ _ _); k_fold))
      obtain ⟨D, os, kk, rfl, m1, m2, hos, hos2, hos3⟩ := HH9
      have hne := off _ List.mem_cons_self
      dsimp only at hne
      have e1 : (1 : Int) + (i : Int) * 1 = ((i + 1 : Nat) : Int) := by omega
      have e2 : (((i + 1 : Nat) : Int)).toNat = i + 1 := by omega
      have e3 : ((i + 1 : Nat) : Int) < over.length := by omega
      have hk : 0 ≤ over.getD (((i + 1 : Nat) : Int)).toNat 0 ∧ over.getD (((i + 1 : Nat) : Int)).toNat 0 < ((i + 1 : Nat) : Int) := by rw [e2]; exact ho3 (i + 1) (by omega) (by omega)
      obtain ⟨hk1, hk2⟩ := hk
      rw [e1]
      have hj : (over.getD (((i + 1 : Nat) : Int)).toNat 0).toNat < (os.map (·.1)).length := by rw [List.length_map]; omega
      have hp : (os.map (·.1)).getD (over.getD (((i + 1 : Nat) : Int)).toNat 0).toNat ⟨#[]⟩ ∈ os.map (·.1) := by
        rw [List.getD_eq_getElem?_getD, List.getElem?_eq_getElem hj]; exact List.getElem_mem hj
      obtain ⟨hp1, hp2⟩ := hos3 _ hp
      obtain ⟨hlt1, hlt2⟩ := letter_ok (i + 1) (by omega) (by omega)
      unfold letterS at hlt1 hlt2
      dsimp only
      (repeat' (first | (k_unfold; (try dsimp only)) | (k_end; wrow_close) | ((with_reducible show wpAny _ _ (execs _ _) _ _ _); k_fold) | (k_here; (with_reducible show wpAny _ _ (call (Value.ref 315) _ _) _ _ _); (try dsimp only); k_dflt (refine' CallOk.use1 ((show JoinSpec _ _ _ by assumption) _ _ _ _ ?q1u141 ?q2u141 ?q3u141 ?q4u141) ?k1u141 ?k2u141 ?k3u141 ?k4u141 ?k5u141 ?kKu141 ?kdu141 ?kuu141 ?kpu141 ?_; (case k1u141 => k_asm); (case k2u141 => k_asm); (case k3u141 => k_asm); (case k4u141 => k_asm); (case k5u141 => k_asm); (case kKu141 => first | exact rfl | assumption); (case kdu141 => (first | exact room2 (by assumption) rfl | exact room1 (by assumption) rfl | exact room0 (by assumption) | exact blt rfl | ktr_room)); (case kuu141 => (first | exact room2 (by assumption) rfl | exact room1 (by assumption) rfl | exact room0 (by assumption) | exact blt rfl | ktr_units)); (case kpu141 => exact trivial); (case q1u141 => (first | assumption | exact Nat.le_trans (by assumption) (by decide) | exact Nat.lt_of_le_of_lt (by assumption) (by decide) | omega)); (case q2u141 => (first | assumption | exact Nat.le_trans (by assumption) (by decide) | exact Nat.lt_of_le_of_lt (by assumption) (by decide) | omega)); (case q3u141 => (first | assumption | exact Nat.le_trans (by assumption) (by decide) | exact Nat.lt_of_le_of_lt (by assumption) (by decide) | omega)); (case q4u141 => assumption); skip); intro zt9 zh9 ztk9 zF9 zN9 zst9; (try dsimp only); (try k_sweep)) | (k_here; (with_reducible show wpAny _ _ (subscriptTail _ _ (Value.ref _) (Value.int _ _)) _ _ _); k_dflt (refine' r_strL ?k1u142 ?k2u142 ?k3u142 ?k4u142 ?k5u142 ?_ ?k6u142; (case k1u142 => k_asm); (case k2u142 => k_mem); (case k3u142 => (first | assumption | exact Nat.le_trans (by assumption) (by decide) | exact Nat.lt_of_le_of_lt (by assumption) (by decide) | omega)); (case k4u142 => (first | assumption | exact Nat.le_trans (by assumption) (by decide) | exact Nat.lt_of_le_of_lt (by assumption) (by decide) | omega)); (case k5u142 => (first | assumption | exact Nat.le_trans (by assumption) (by decide) | exact Nat.lt_of_le_of_lt (by assumption) (by decide) | omega)); (case k6u142 => with_unfolding_all rfl); k_whole); intro zt9) | (k_here; (with_reducible show wpAny _ _ (subscriptTail _ _ (Value.ref _) (Value.int _ _)) _ _ _); k_dflt (refine' r_intAt ?k1u143 ?k2u143 ?k3u143 ?k4u143 ?_ ?k6u143; (case k1u143 => exact IntsAt.keeps (by assumption) (Fr.keep (by assumption))); (case k2u143 => (first | assumption | exact Nat.le_trans (by assumption) (by decide) | exact Nat.lt_of_le_of_lt (by assumption) (by decide) | omega)); (case k3u143 => (first | assumption | exact Nat.le_trans (by assumption) (by decide) | exact Nat.lt_of_le_of_lt (by assumption) (by decide) | omega)); (case k4u143 => (first | assumption | exact Nat.le_trans (by assumption) (by decide) | exact Nat.lt_of_le_of_lt (by assumption) (by decide) | omega)); (case k6u143 => with_unfolding_all rfl); k_whole); intro zt9) | ((with_reducible show wpAny _ _ (eval (PySem.Expr.Name _ _) _) _ _ _); (k_here; k_dflt (refine' PyProof.Rows.ld ?k1u144 ?k2u144 ?_; (case k1u144 => k_asm); (case k2u144 => first | with_reducible assumption | assumption); k_whole))) | ((with_reducible show wpAny _ _ (call (Value.builtin "list.append") _ _) _ _ _); (k_here; (show wpAny _ _ (call (Value.builtin _) [Value.ref _, _]) _ _ _); k_dflt (refine' rv_append ?k1u145 ?k2u145 ?k3u145 ?k4u145 ?_; (case k1u145 => k_asm); (case k2u145 => k_asm); (case k3u145 => k_updF); (case k4u145 => ((try simp only [List.length_map, List.length_append, List.length_cons, List.length_nil]); (first | assumption | exact Nat.le_trans (by assumption) (by decide) | exact Nat.lt_of_le_of_lt (by assumption) (by decide) | omega))); k_whole); intro zh' zF' zN')) | walk1 | (dsimp only; first | (k_here; (with_reducible show wpAny _ _ (call (Value.ref 315) _ _) _ _ _); (try dsimp only); k_dflt (refine' CallOk.use1 ((show JoinSpec _ _ _ by assumption) _ _ _ _ ?q1u146 ?q2u146 ?q3u146 ?q4u146) ?k1u146 ?k2u146 ?k3u146 ?k4u146 ?k5u146 ?kKu146 ?kdu146 ?kuu146 ?kpu146 ?_; (case k1u146 => k_asm); (case k2u146 => k_asm); (case k3u146 => k_asm); (case k4u146 => k_asm); (case k5u146 => k_asm); (case kKu146 => first | exact rfl | assumption); (case kdu146 => (first | exact room2 (by assumption) rfl | exact room1 (by assumption) rfl | exact room0 (by assumption) | exact blt rfl | ktr_room)); (case kuu146 => (first | exact room2 (by assumption) rfl | exact room1 (by assumption) rfl | exact room0 (by assumption) | exact blt rfl | ktr_units)); (case kpu146 => exact trivial); (case q1u146 => (first | assumption | exact Nat.le_trans (by assumption) (by decide) | exact Nat.lt_of_le_of_lt (by assumption) (by decide) | omega)); (case q2u146 => (first | assumption | exact Nat.le_trans (by assumption) (by decide) | exact Nat.lt_of_le_of_lt (by assumption) (by decide) | omega)); (case q3u146 => (first | assumption | exact Nat.le_trans (by assumption) (by decide) | exact Nat.lt_of_le_of_lt (by assumption) (by decide) | omega)); (case q4u146 => assumption); skip); intro zt9 zh9 ztk9 zF9 zN9 zst9; (try dsimp only); (try k_sweep)) | (k_here; (with_reducible show wpAny _ _ (subscriptTail _ _ (Value.ref _) (Value.int _ _)) _ _ _); k_dflt (refine' r_strL ?k1u147 ?k2u147 ?k3u147 ?k4u147 ?k5u147 ?_ ?k6u147; (case k1u147 => k_asm); (case k2u147 => k_mem); (case k3u147 => (first | assumption | exact Nat.le_trans (by assumption) (by decide) | exact Nat.lt_of_le_of_lt (by assumption) (by decide) | omega)); (case k4u147 => (first | assumption | exact Nat.le_trans (by assumption) (by decide) | exact Nat.lt_of_le_of_lt (by assumption) (by decide) | omega)); (case k5u147 => (first | assumption | exact Nat.le_trans (by assumption) (by decide) | exact Nat.lt_of_le_of_lt (by assumption) (by decide) | omega)); (case k6u147 => with_unfolding_all rfl); k_whole); intro zt9) | (k_here; (with_reducible show wpAny _ _ (subscriptTail _ _ (Value.ref _) (Value.int _ _)) _ _ _); k_dflt (refine' r_intAt ?k1u148 ?k2u148 ?k3u148 ?k4u148 ?_ ?k6u148; (case k1u148 => exact IntsAt.keeps (by assumption) (Fr.keep (by assumption))); (case k2u148 => (first | assumption | exact Nat.le_trans (by assumption) (by decide) | exact Nat.lt_of_le_of_lt (by assumption) (by decide) | omega)); (case k3u148 => (first | assumption | exact Nat.le_trans (by assumption) (by decide) | exact Nat.lt_of_le_of_lt (by assumption) (by decide) | omega)); (case k4u148 => (first | assumption | exact Nat.le_trans (by assumption) (by decide) | exact Nat.lt_of_le_of_lt (by assumption) (by decide) | omega)); (case k6u148 => with_unfolding_all rfl); k_whole); intro zt9) | ((with_reducible show wpAny _ _ (eval (PySem.Expr.Name _ _) _) _ _ _); (k_here; k_dflt (refine' PyProof.Rows.ld ?k1u149 ?k2u149 ?_; (case k1u149 => k_asm); (case k2u149 => first | with_reducible assumption | assumption); k_whole))) | ((with_reducible show wpAny _ _ (call (Value.builtin "list.append") _ _) _ _ _); (k_here; (show wpAny _ _ (call (Value.builtin _) [Value.ref _, _]) _ _ _); k_dflt (refine' rv_append ?k1u150 ?k2u150 ?k3u150 ?k4u150 ?_; (case k1u150 => k_asm); (case k2u150 => k_asm); (case k3u150 => k_updF); (case k4u150 => ((try simp only [List.length_map, List.length_append, List.length_cons, List.length_nil]); (first | assumption | exact Nat.le_trans (by assumption) (by decide) | exact Nat.lt_of_le_of_lt (by assumption) (by decide) | omega))); k_whole); intro zh' zF' zN')) | walk1) | ((simp only [List.cons_append, List.nil_append]); walk1) | (leave1; try dsimp only) | fail "no step"))
      have F2 := (by assumption : Fr g' L' _ _)
      refine Stopped.mk ⟨_, _, _, _, rfl, F2, by assumption, D, os ++ [(_, _)], _, by rw [valsS_snoc], m1, m2, by rw [List.length_append, hos]; rfl, ?_, ?_⟩
      · rw [List.map_append, placesN_succ, hos2]
        unfold placesStep letterS
        rw [← hos2, e2]
        rfl
      · intro x hx
        rw [List.map_append] at hx
        rcases List.mem_append.mp hx with hx | hx
        · have := hos3 x hx; omega
        · rw [List.mem_singleton.mp hx]
          have := joinS_len ((os.map (·.1)).getD (over.getD (((i + 1 : Nat) : Int)).toNat 0).toNat ⟨#[]⟩) (Txt.item (Str.ofString "-abcdefg") ((i + 1 : Nat) : Int))
          dsimp only
          omega
    case restv20 =>
      clear F1 N1
      rintro m led h tk ⟨D, os, kk, rfl, m1, m2, hos, hos2, hos3⟩ F1 N1
      dsimp only
      (repeat' (first | (k_unfold; (try dsimp only)) | (k_end; wrow_close) | ((with_reducible show wpAny _ _ (execs _ _) _ _ _); k_fold) | ((with_reducible show wpAny _ _ (eval (PySem.Expr.Name _ _) _) _ _ _); (k_here; k_dflt (refine' PyProof.Rows.ld ?k1u151 ?k2u151 ?_; (case k1u151 => k_asm); (case k2u151 => first | with_reducible assumption | assumption); k_whole))) | walk1 | (dsimp only; first | ((with_reducible show wpAny _ _ (eval (PySem.Expr.Name _ _) _) _ _ _); (k_here; k_dflt (refine' PyProof.Rows.ld ?k1u152 ?k2u152 ?_; (case k1u152 => k_asm); (case k2u152 => first | with_reducible assumption | assumption); k_whole))) | walk1) | ((simp only [List.cons_append, List.nil_append]); walk1) | (leave1; try dsimp only) | fail "no step"))
      exact hret _ _ _ _ ⟨(_, ⟨os, hos2⟩, _), rfl, rfl⟩ (by assumption) (by assumption) (by assumption)
  have head_ok : ∀ w, HeadSpec Mine.main.heap_1_39 Mine.main.view_1_40 w := by
    intro w
    have S0 : DirSpec Mine.main.heap_1_39 Mine.main.view_1_40 w := dirname_ok w
    have S1 : ContainsSpec Mine.main.heap_1_39 Mine.main.view_1_40 w := has_ok w
    clear places_ok over_ok add_ok set_ok has_ok get_ok del_ok items_ok lenh_ok getall_ok conv_ok hfy_ok pop_ok push_ok su_ok sd_ok join_ok dirname_ok fspath_ok getsep_ok
    unfold HeadSpec CallOk
    k_fill
    intro x d l t t2 its n place hl hp mean mg mb dp un gd cn cs a ccd cl outer A₀ base h₀ L m s Q E B F X N T hk hd hu hpre hret
    refine wpAny_call ?_
    k_dflt (refine' plainG ?k1v21 ?k2v21 ?k3v21 ?k4v21 ?k5v21 ?kAv21 ?kFv21 ?kKv21 ?k6v21 ?k7v21 ?k8v21 ?k9v21 ?kBv21 ?_ ?c2v21 ?c3v21 ?c4v21 ?c5v21; (case kAv21 => exact rfl); (case kFv21 => exact rfl); (case kKv21 => assumption); (case k1v21 => k_asm); (case k2v21 => k_asm); (case k3v21 => k_asm); (case k4v21 => k_asm); (case k5v21 => k_asm); (case k6v21 => k_is); (case k7v21 => k_is); (case k8v21 => (first | exact room2 (by assumption) rfl | exact room1 (by assumption) rfl | exact room0 (by assumption) | exact blt rfl | ktr_room)); (case k9v21 => first | exact BindsTo.of_eq rfl | exact binds_K (by k_in) rfl (by k_is) rfl rfl rfl); (case kBv21 => exact locs rfl); (case c5v21 => decide); (case c2v21 => exact rfl); (case c3v21 => exact rfl); (case c4v21 => exact rfl); k_whole; intro g' L' h' FG' F' N' B' X' T' hg'; (try dsimp only); (try k_fold))
    have hI0 : HAt g' its := HAt.down hpre hg' N hd_ne_tuple
    obtain ⟨hn1, hn2, hn3⟩ := hd_ne N
    (repeat' (first | (k_unfold; (try dsimp only)) | (k_end; wrow_close) | ((with_reducible show wpAny _ _ (execs _ _) _ _ _); k_fold) | ((with_reducible show wpAny _ _ (exec (Stmt.While _ _ _ _) _) _ _ _); (refine stop_here ?_)) | walk1 | (dsimp only; first | ((with_reducible show wpAny _ _ (exec (Stmt.While _ _ _ _) _) _ _ _); (refine stop_here ?_)) | walk1) | ((simp only [List.cons_append, List.nil_append]); walk1) | (leave1; try dsimp only) | fail "no step"))
    have F1 := (by assumption : Fr g' L' _ _)
    have N1 := (by assumption : News g' L' _ (hdL w x d l t its n))
    refine Stopped.mk ?_
    refine while_cut (fun st => Ex5 fun (h : Heap) (tk : Nat) (m' : Str → Option Value) (q : Str) (tq : Tok) => And5 (st = { s with heap := h, toks := tk }) (Fr g' L' h m') (News g' L' h (hdL w x d l t its n)) (m' (Str.ofString "place") = some (.str q tq)) (q = headF its 16 place))
      (fun k st => Ex6 fun (h : Heap) (tk : Nat) (m' : Str → Option Value) (q : Str) (tq : Tok) (f : Nat) => And9 (st = { s with heap := h, toks := tk }) (Fr g' L' h m') (News g' L' h (hdL w x d l t its n)) (m' (Str.ofString "place") = some (.str q tq)) (m' (Str.ofString "cuts") = some (.ref x)) (q ∈ pl 7) (q.length ≤ f) (headF its f q = headF its 16 place) (k = q.length)) place.length ?startv21 ?turnv21 ?restv21
    case startv21 => exact ⟨_, _, _, place, _, 16, rfl, F1, N1, rfl, rfl, hp, (pl_facts hp).2.2.2.2.2.1, rfl, rfl⟩
    case turnv21 =>
      clear F1 N1
      intro k st HH2
      (try ((with_reducible show wpAny _ _ _ _ _ _); k_fold))
      obtain ⟨h, tk, m', q, tq, f, rfl, F1, N1, m1, m2, hq, hf, hh, rfl⟩ := HH2
      have c1 := (pl_facts hq).1
      have c2 := (pl_facts hq).2.1
      have c3 := (pl_facts hq).2.2.1
      have c4 := (pl_facts hq).2.2.2.1
      have c5 := (pl_facts hq).2.2.2.2.1
      have c6 := (pl_facts hq).2.2.2.2.2.1
      have c7 := (pl_facts hq).2.2.2.2.2.2.1
      have c8 := (pl_facts hq).2.2.2.2.2.2.2
      (repeat' (first | (k_unfold; (try dsimp only)) | (k_end; wrow_close) | ((with_reducible show wpAny _ _ (execs _ _) _ _ _); k_fold) | (k_here; (with_reducible show wpAny _ _ (call (Value.ref 322) _ _) _ _ _); (try dsimp only); k_dflt (refine' CallOk.use1 ((show DirSpec _ _ _ by assumption) _ _ ?q1u155) ?k1u155 ?k2u155 ?k3u155 ?k4u155 ?k5u155 ?kKu155 ?kdu155 ?kuu155 ?kpu155 ?_; (case k1u155 => k_asm); (case k2u155 => k_asm); (case k3u155 => k_asm); (case k4u155 => k_asm); (case k5u155 => k_asm); (case kKu155 => first | exact rfl | assumption); (case kdu155 => (first | exact room2 (by assumption) rfl | exact room1 (by assumption) rfl | exact room0 (by assumption) | exact blt rfl | ktr_room)); (case kuu155 => (first | exact room2 (by assumption) rfl | exact room1 (by assumption) rfl | exact room0 (by assumption) | exact blt rfl | ktr_units)); (case kpu155 => exact trivial); (case q1u155 => (first | assumption | exact Nat.le_trans (by assumption) (by decide) | exact Nat.lt_of_le_of_lt (by assumption) (by decide) | omega)); skip); intro zt9 zh9 ztk9 zF9 zN9 zst9; (try dsimp only); (try k_sweep)) | (k_here; (with_reducible show wpAny _ _ (call (Value.ref 116) _ _) _ _ _); (try dsimp only); k_dflt (refine' CallOk.useU0 ((show ContainsSpec _ _ _ by assumption) _ _ _ _ _ _ _ _ ?q1u156 ?q2u156 ?q3u156) ?k1u156 ?k2u156 ?k3u156 ?k4u156 ?k5u156 ?kKu156 ?kdu156 ?kuu156 ?kpu156 ?h1u156 ?hUu156 ?_; (case k1u156 => k_asm); (case k2u156 => k_asm); (case k3u156 => k_asm); (case k4u156 => k_asm); (case k5u156 => k_asm); (case kKu156 => first | exact rfl | assumption); (case kdu156 => (first | exact room2 (by assumption) rfl | exact room1 (by assumption) rfl | exact room0 (by assumption) | exact blt rfl | ktr_room)); (case kuu156 => (first | exact room2 (by assumption) rfl | exact room1 (by assumption) rfl | exact room0 (by assumption) | exact blt rfl | ktr_units)); (case hUu156 => k_updF); (case h1u156 => (refine List.forall_mem_cons.mpr ⟨by k_mem, List.forall_mem_cons.mpr ⟨by k_mem, List.forall_mem_nil _⟩⟩)); (case kpu156 => (first | assumption | exact HAt.keeps (by assumption) (Fr.keep (by assumption)))); (case q1u156 => assumption); (case q2u156 => (first | assumption | exact Nat.le_trans (by assumption) (by decide) | exact Nat.lt_of_le_of_lt (by assumption) (by decide) | omega)); (case q3u156 => assumption); skip); intro zh9 ztk9 zF9 zN9 zst9; (try dsimp only); (try k_sweep)) | ((with_reducible show wpAny _ _ (eval (PySem.Expr.Name _ _) _) _ _ _); (k_here; k_dflt (refine' PyProof.Rows.ld ?k1u157 ?k2u157 ?_; (case k1u157 => k_asm); (case k2u157 => first | with_reducible assumption | assumption); k_whole))) | walk1 | (dsimp only; first | (k_here; (with_reducible show wpAny _ _ (call (Value.ref 322) _ _) _ _ _); (try dsimp only); k_dflt (refine' CallOk.use1 ((show DirSpec _ _ _ by assumption) _ _ ?q1u158) ?k1u158 ?k2u158 ?k3u158 ?k4u158 ?k5u158 ?kKu158 ?kdu158 ?kuu158 ?kpu158 ?_; (case k1u158 => k_asm); (case k2u158 => k_asm); (case k3u158 => k_asm); (case k4u158 => k_asm); (case k5u158 => k_asm); (case kKu158 => first | exact rfl | assumption); (case kdu158 => (first | exact room2 (by assumption) rfl | exact room1 (by assumption) rfl | exact room0 (by assumption) | exact blt rfl | ktr_room)); (case kuu158 => (first | exact room2 (by assumption) rfl | exact room1 (by assumption) rfl | exact room0 (by assumption) | exact blt rfl | ktr_units)); (case kpu158 => exact trivial); (case q1u158 => (first | assumption | exact Nat.le_trans (by assumption) (by decide) | exact Nat.lt_of_le_of_lt (by assumption) (by decide) | omega)); skip); intro zt9 zh9 ztk9 zF9 zN9 zst9; (try dsimp only); (try k_sweep)) | (k_here; (with_reducible show wpAny _ _ (call (Value.ref 116) _ _) _ _ _); (try dsimp only); k_dflt (refine' CallOk.useU0 ((show ContainsSpec _ _ _ by assumption) _ _ _ _ _ _ _ _ ?q1u159 ?q2u159 ?q3u159) ?k1u159 ?k2u159 ?k3u159 ?k4u159 ?k5u159 ?kKu159 ?kdu159 ?kuu159 ?kpu159 ?h1u159 ?hUu159 ?_; (case k1u159 => k_asm); (case k2u159 => k_asm); (case k3u159 => k_asm); (case k4u159 => k_asm); (case k5u159 => k_asm); (case kKu159 => first | exact rfl | assumption); (case kdu159 => (first | exact room2 (by assumption) rfl | exact room1 (by assumption) rfl | exact room0 (by assumption) | exact blt rfl | ktr_room)); (case kuu159 => (first | exact room2 (by assumption) rfl | exact room1 (by assumption) rfl | exact room0 (by assumption) | exact blt rfl | ktr_units)); (case hUu159 => k_updF); (case h1u159 => (refine List.forall_mem_cons.mpr ⟨by k_mem, List.forall_mem_cons.mpr ⟨by k_mem, List.forall_mem_nil _⟩⟩)); (case kpu159 => (first | assumption | exact HAt.keeps (by assumption) (Fr.keep (by assumption)))); (case q1u159 => assumption); (case q2u159 => (first | assumption | exact Nat.le_trans (by assumption) (by decide) | exact Nat.lt_of_le_of_lt (by assumption) (by decide) | omega)); (case q3u159 => assumption); skip); intro zh9 ztk9 zF9 zN9 zst9; (try dsimp only); (try k_sweep)) | ((with_reducible show wpAny _ _ (eval (PySem.Expr.Name _ _) _) _ _ _); (k_here; k_dflt (refine' PyProof.Rows.ld ?k1u160 ?k2u160 ?_; (case k1u160 => k_asm); (case k2u160 => first | with_reducible assumption | assumption); k_whole))) | walk1) | ((simp only [List.cons_append, List.nil_append]); walk1) | (leave1; try dsimp only) | fail "no step"))
      · have a1 := (by assumption : (q != Str.ofString "/") = true)
        have a2 := (by assumption : (getF q its).isSome = true)
        refine Stopped.mk ⟨_, _, _, q, tq, rfl, by assumption, by assumption, m1, ?_⟩
        rw [← hh]
        cases f with
        | zero => rfl
        | succ f => unfold headF; rw [if_neg (fun h => Bool.noConfusion (h.2.symm.trans a2))]
      · have a1 := (by assumption : (q != Str.ofString "/") = true)
        have a2 := (by assumption : (getF q its).isSome = false)
        obtain ⟨d1, d2⟩ := c8 (bne_iff_ne.mp a1)
        have F2 := (by assumption : Fr g' L' _ _)
        obtain ⟨f', rfl⟩ : ∃ f', f = f' + 1 := ⟨f - 1, by omega⟩
        refine Stopped.mk ⟨(dirS q).length, d2, _, _, _, dirS q, _, f', rfl, F2, by assumption, rfl, m2, d1, by omega, ?_, rfl⟩
        rw [← hh]
        unfold headF
        rw [if_pos ⟨a1, a2⟩]
        cases f' <;> rfl
      · have a1 := (by assumption : (q != Str.ofString "/") = false)
        refine Stopped.mk ⟨_, _, _, q, tq, rfl, by assumption, by assumption, m1, ?_⟩
        rw [← hh]
        cases f with
        | zero => rfl
        | succ f => unfold headF; rw [if_neg (fun h => Bool.noConfusion (h.1.symm.trans a1))]
    case restv21 =>
      clear F1 N1
      rintro st ⟨h, tk, m', q, tq, rfl, F1, N1, m1, rfl⟩
      (repeat' (first | (k_unfold; (try dsimp only)) | (k_end; wrow_close) | ((with_reducible show wpAny _ _ (execs _ _) _ _ _); k_fold) | ((with_reducible show wpAny _ _ (eval (PySem.Expr.Name _ _) _) _ _ _); (k_here; k_dflt (refine' PyProof.Rows.ld ?k1u161 ?k2u161 ?_; (case k1u161 => k_asm); (case k2u161 => first | with_reducible assumption | assumption); k_whole))) | walk1 | (dsimp only; first | ((with_reducible show wpAny _ _ (eval (PySem.Expr.Name _ _) _) _ _ _); (k_here; k_dflt (refine' PyProof.Rows.ld ?k1u162 ?k2u162 ?_; (case k1u162 => k_asm); (case k2u162 => first | with_reducible assumption | assumption); k_whole))) | walk1) | ((simp only [List.cons_append, List.nil_append]); walk1) | (leave1; try dsimp only) | fail "no step"))
      exact hret _ _ _ _ ⟨_, rfl, rfl⟩ (by assumption) (show News h₀ L _ (hdL w x d l t its n) by assumption) (by assumption)
  have few_ok : ∀ w, FewSpec Mine.main.heap_1_39 Mine.main.view_1_40 w := by
    intro w
    clear head_ok places_ok over_ok add_ok set_ok has_ok get_ok del_ok items_ok lenh_ok getall_ok conv_ok hfy_ok pop_ok push_ok su_ok sd_ok join_ok dirname_ok fspath_ok getsep_ok
    unfold FewSpec CallOk
    k_fill
    intro O P over loads room t ho hlo hfl mean mg mb dp un gd cn cs a ccd cl outer A₀ base h₀ L m s Q E B F X N T hk hd hu hpre hret
    refine wpAny_call ?_
    k_dflt (refine' cellsG ?k1v22 ?k2v22 ?k3v22 ?k4v22 ?k5v22 ?kAv22 ?kFv22 ?kKv22 ?k6v22 ?k7v22 ?k8v22 ?k9v22 ?kBv22 ?kDv22 ?_ ?c2v22 ?c3v22 ?c4v22; (case kAv22 => exact rfl); (case kFv22 => exact rfl); (case kKv22 => assumption); (case k1v22 => k_asm); (case k2v22 => k_asm); (case k3v22 => k_asm); (case k4v22 => k_asm); (case k5v22 => k_asm); (case k6v22 => k_is); (case k7v22 => k_is); (case k8v22 => (first | exact room2 (by assumption) rfl | exact room1 (by assumption) rfl | exact room0 (by assumption) | exact blt rfl | ktr_room)); (case k9v22 => first | exact BindsTo.of_eq rfl | (refine' kp_binds ?kxv22 ?kev22; (case kxv22 => k_in); (case kev22 => exact fun _ => rfl))); (case kBv22 => exact rfl); (case kDv22 => decide +kernel); (case c2v22 => exact rfl); (case c3v22 => exact rfl); (case c4v22 => exact rfl); k_whole; intro g' L' h' tk' cells' FG' F' N' Y' B' X' T' hg' l1; (try k_lt l1); k_cells Y'; (try simp only [List.cons_append, List.nil_append] at N'); (try dsimp only); (try k_fold))
    obtain ⟨ho1, ho2, ho3⟩ := ho
    have hO : IntsAt g' O over := IntsAt.keeps hpre.1 (fun b o e => hg' b o e (by simp))
    have hP : IntsAt g' P loads := IntsAt.keeps hpre.2 (fun b o e => hg' b o e (by simp))
    (repeat' (first | (k_unfold; (try dsimp only)) | (k_end; wrow_close) | ((with_reducible show wpAny _ _ (execs _ _) _ _ _); k_fold) | ((with_reducible show wpAny _ _ (exec (Stmt.For (PySem.Expr.Name _ _) (PySem.Expr.Call _ _ _ _) _ _ _) _) _ _ _); (k_here; (with_unfolding_all refine' for_stop ?_ ?hsu163; (case hsu163 => exact fun _ => rfl); k_whole))) | ((with_reducible show wpAny _ _ (call (Value.builtin "len") _ _) _ _ _); (k_here; (show wpAny _ _ (call (Value.builtin _) [Value.ref _]) _ _ _); k_dflt (refine' rb_len ?k1u164 ?k4u164 ?_; (case k1u164 => exact IntsAt.keeps (by assumption) (Fr.keep (by assumption))); (case k4u164 => (first | assumption | exact Nat.le_trans (by assumption) (by decide) | exact Nat.lt_of_le_of_lt (by assumption) (by decide) | omega)); k_whole); intro zt9 zk9)) | walk1 | (dsimp only; first | ((with_reducible show wpAny _ _ (exec (Stmt.For (PySem.Expr.Name _ _) (PySem.Expr.Call _ _ _ _) _ _ _) _) _ _ _); (k_here; (with_unfolding_all refine' for_stop ?_ ?hsu165; (case hsu165 => exact fun _ => rfl); k_whole))) | ((with_reducible show wpAny _ _ (call (Value.builtin "len") _ _) _ _ _); (k_here; (show wpAny _ _ (call (Value.builtin _) [Value.ref _]) _ _ _); k_dflt (refine' rb_len ?k1u166 ?k4u166 ?_; (case k1u166 => exact IntsAt.keeps (by assumption) (Fr.keep (by assumption))); (case k4u166 => (first | assumption | exact Nat.le_trans (by assumption) (by decide) | exact Nat.lt_of_le_of_lt (by assumption) (by decide) | omega)); k_whole); intro zt9 zk9)) | walk1) | ((simp only [List.cons_append, List.nil_append]); walk1) | (leave1; try dsimp only) | fail "no step"))
    refine Stopped.mk ?_
    have F1 := (by assumption : Fr g' L' _ _)
    have N1 := (by assumption : News g' L' _ [_, _])
    refine for_rangeK (L := L') (n := 2 ^ (over.length - 1)) rfl rfl (by assumption) ?smallv22 ?sizev22 F1 N1 (fun i m led => Ex5 fun (G : Addr) (its : List FIt) (kk : Nat) (oc : Obj) (tl : Led) => And12 (led = (G, listOf (fvals its).toArray kk) :: (L' + 1, oc) :: tl) ((∃ ov, oc.data = .cell ov)) ((@LT.lt Nat _ (L' + 1) G)) (Above G tl) (Above (L' + 1) tl) ((∀ p ∈ tl, p.2.cls = .type "tuple")) (FIn tl its) (its.map (·.2) = fewL over loads room i) (m (Str.ofString "found") = some (.ref G)) (m (Str.ofString "over") = some (.ref O)) (m (Str.ofString "loads") = some (.ref P)) (m (Str.ofString "room") = some (.int room t))) (fun _ _ => False) [] (fun _ h => nomatch h) ?hJv22 ⟨_, [], _, _, [], rfl, ⟨_, (by assumption)⟩, (by omega), (fun _ h => nomatch h), (fun _ h => nomatch h), (fun _ h => nomatch h), (fun _ h => nomatch h), rfl, rfl, rfl, rfl, rfl⟩ ?turnv22 ?restv22 (fun _ _ h => h.elim)
    case smallv22 => rw [(pow_small ho1 ho2).1]; exact rsmall_nat (Nat.le_trans (pow_small ho1 ho2).2 (by decide))
    case sizev22 => rw [(pow_small ho1 ho2).1]; exact rsize_nat
    case hJv22 =>
      rintro i m led ⟨G, its, kk, oc, tl, rfl, ⟨ov, hoc⟩, -, -, -, hcl, -⟩
      exact few_off hoc hcl
    case turnv22 =>
      clear F1 N1
      intro I i tt m led oI h tk hi HH9 F1 N1 off
      (try ((with_reducible show wpAny _ _ _ _ _ _); k_fold))
      obtain ⟨G, its, kk, oc, tl, rfl, ⟨ov, hoc⟩, hG, hA1, hA2, hcl, hfi, hits, m1, m2, m3, m4⟩ := HH9
      obtain ⟨off1, off2, off3⟩ : (@Ne Nat G I) ∧ (@Ne Nat (L' + 1) I) ∧ Off I tl := ⟨off _ (.head _), off _ (.tail _ (.head _)), fun p hp => off p (.tail _ (.tail _ hp))⟩
      dsimp only
      (repeat' (first | (k_unfold; (try dsimp only)) | (k_end; wrow_close) | ((with_reducible show wpAny _ _ (execs _ _) _ _ _); k_fold) | ((with_reducible show LCg.CompSrc _ _ _ _ _ _ _ _ _ _ _ _ _ _); (refine stop_here ?_)) | ((with_reducible show wpAny _ _ (eval (PySem.Expr.ListComp _ _ _ _) _) _ _ _); (k_here; k_dflt (refine LCg.ListComp_U (F₀ := by k_asm) (by with_unfolding_all rfl) (by decide) (by rfl) (by decide) (by rfl) ?_))) | ((with_reducible show wpAny _ _ (eval (PySem.Expr.Name _ _) _) _ _ _); (k_here; k_dflt (refine' PyProof.Rows.ld ?k1u169 ?k2u169 ?_; (case k1u169 => k_asm); (case k2u169 => first | with_reducible assumption | assumption); k_whole))) | ((with_reducible show wpAny _ _ (call (Value.builtin "len") _ _) _ _ _); (k_here; (show wpAny _ _ (call (Value.builtin _) [Value.ref _]) _ _ _); k_dflt (refine' rb_len ?k1u170 ?k4u170 ?_; (case k1u170 => exact IntsAt.keeps (by assumption) (Fr.keep (by assumption))); (case k4u170 => (first | assumption | exact Nat.le_trans (by assumption) (by decide) | exact Nat.lt_of_le_of_lt (by assumption) (by decide) | omega)); k_whole); intro zt9 zk9)) | walk1 | (dsimp only; first | ((with_reducible show LCg.CompSrc _ _ _ _ _ _ _ _ _ _ _ _ _ _); (refine stop_here ?_)) | ((with_reducible show wpAny _ _ (eval (PySem.Expr.ListComp _ _ _ _) _) _ _ _); (k_here; k_dflt (refine LCg.ListComp_U (F₀ := by k_asm) (by with_unfolding_all rfl) (by decide) (by rfl) (by decide) (by rfl) ?_))) | ((with_reducible show wpAny _ _ (eval (PySem.Expr.Name _ _) _) _ _ _); (k_here; k_dflt (refine' PyProof.Rows.ld ?k1u173 ?k2u173 ?_; (case k1u173 => k_asm); (case k2u173 => first | with_reducible assumption | assumption); k_whole))) | ((with_reducible show wpAny _ _ (call (Value.builtin "len") _ _) _ _ _); (k_here; (show wpAny _ _ (call (Value.builtin _) [Value.ref _]) _ _ _); k_dflt (refine' rb_len ?k1u174 ?k4u174 ?_; (case k1u174 => exact IntsAt.keeps (by assumption) (Fr.keep (by assumption))); (case k4u174 => (first | assumption | exact Nat.le_trans (by assumption) (by decide) | exact Nat.lt_of_le_of_lt (by assumption) (by decide) | omega)); k_whole); intro zt9 zk9)) | walk1) | ((simp only [List.cons_append, List.nil_append]); walk1) | (leave1; try dsimp only) | fail "no step"))
      all_goals try first | exact (⟨#[]⟩ : Str) | exact (0 : Nat) | exact Value.none
      refine Stopped.mk ?_
      have hlen : ((over.length : Int) - 1 - 0).toNat = over.length - 1 := by omega
      have F1 := (by assumption : Fr g' L' _ _)
      have N1 := (by assumption : News g' L' _ (_ :: (I, _) :: _))
      refine LCg.CompSrc.range (n := over.length - 1) rfl F1 N1 (by assumption) (rsmall1 (by decide) (by decide) (by omega) (by omega)) (by rw [rsize1]; omega) (by rw [sizeLine_eq]; omega) (fun g => ?_)
      refine comp_inv (fun j ys news => news = _ ∧ ∃ ts : TI, ys = valsN ts ∧ ts.map (·.1) = bitsF j i) ?ctv22 ?cfv22 _ 0 [] _ (Nat.zero_add _) ⟨rfl, [], rfl, rfl⟩
      case ctv22 =>
        clear F1 N1
        rintro j ys news v I2 oI2 C oC D m2' h tk E' hj ⟨rfl, ts, rfl, hts⟩ ⟨tv, rfl⟩ hC hx F2 N2 o1 o2
        have ej : (0 : Int) + (j : Int) = (j : Int) := by omega
        have ei : (0 : Int) + (i : Int) * 1 = (i : Int) := by omega
        dsimp only
        (repeat' (first | (k_unfold; (try dsimp only)) | (k_end; wrow_close) | ((with_reducible show wpAny _ _ (execs _ _) _ _ _); k_fold) | walk1 | (dsimp only; first | walk1) | ((simp only [List.cons_append, List.nil_append]); walk1) | (leave1; try dsimp only) | fail "no step"))
        have F3 := (by assumption : Fr g' L' _ _)
        exact LCg.CompEnd.intro F3 N2 _ (fun _ h => h) o1 trivial ⟨rfl, ts ++ [(_, _)], valsN_snoc.symm, by rw [List.map_append, hts]; dsimp only [List.map_cons, List.map_nil]; rw [ei, ej, Int.toNat_natCast]; unfold bitsF; rw [List.range_succ, List.map_append]; rfl⟩
      case cfv22 =>
        clear F1 N1
        rintro ys news ⟨rfl, ts, rfl, hts⟩
        have htl : ts.length = over.length - 1 := by
          have := congrArg List.length hts
          rw [List.length_map] at this
          rw [this]; unfold bitsF; rw [List.length_map, List.length_range]
        (repeat' (first | (k_unfold; (try dsimp only)) | (k_end; wrow_close) | ((with_reducible show wpAny _ _ (execs _ _) _ _ _); k_fold) | ((with_reducible show wpAny _ _ (call (Value.type "list") _ _) _ _ _); (k_here; (show wpAny _ _ (call (Value.type _) [Value.ref _]) _ _ _); k_dflt (refine' r_listOf ?k1u175 ?k2u175 ?k3u175 ?k4u175 ?_; (case k1u175 => k_asm); (case k2u175 => k_asm); (case k3u175 => exact IntsAt.keeps (by assumption) (Fr.keep (by assumption))); (case k4u175 => (first | assumption | exact Nat.le_trans (by assumption) (by decide) | exact Nat.lt_of_le_of_lt (by assumption) (by decide) | omega)); k_whole); intro zD' zh' zc' zts' ze' zF' zN' zl1; (try k_lt zl1))) | (k_here; (with_reducible show wpAny _ _ (binaryOp Operator.Add (Value.ref _) (Value.ref _)) _ _ _); k_dflt (refine' r_listAdd ?k1u176 ?k2u176 ?k3u176 ?k4u176 ?k5u176 ?_; (case k1u176 => k_asm); (case k2u176 => k_asm); (case k3u176 => k_mem); (case k4u176 => k_mem); (case k5u176 => (first | assumption | exact Nat.le_trans (by assumption) (by decide) | exact Nat.lt_of_le_of_lt (by assumption) (by decide) | omega)); k_whole); intro zD' zh' zF' zN' zl1; (try k_lt zl1)) | ((with_reducible show wpAny _ _ (exec (Stmt.For (PySem.Expr.Name _ _) (PySem.Expr.Call _ _ _ _) _ _ _) _) _ _ _); (k_here; (with_unfolding_all refine' for_stop ?_ ?hsu177; (case hsu177 => exact fun _ => rfl); k_whole))) | ((with_reducible show wpAny _ _ (eval (PySem.Expr.Name _ _) _) _ _ _); (k_here; k_dflt (refine' PyProof.Rows.ld ?k1u178 ?k2u178 ?_; (case k1u178 => k_asm); (case k2u178 => first | with_reducible assumption | assumption); k_whole))) | ((with_reducible show wpAny _ _ (call (Value.builtin "len") _ _) _ _ _); (k_here; (show wpAny _ _ (call (Value.builtin _) [Value.ref _]) _ _ _); k_dflt (refine' rb_len ?k1u179 ?k4u179 ?_; (case k1u179 => exact IntsAt.keeps (by assumption) (Fr.keep (by assumption))); (case k4u179 => (first | assumption | exact Nat.le_trans (by assumption) (by decide) | exact Nat.lt_of_le_of_lt (by assumption) (by decide) | omega)); k_whole); intro zt9 zk9)) | walk1 | (dsimp only; first | ((with_reducible show wpAny _ _ (call (Value.type "list") _ _) _ _ _); (k_here; (show wpAny _ _ (call (Value.type _) [Value.ref _]) _ _ _); k_dflt (refine' r_listOf ?k1u180 ?k2u180 ?k3u180 ?k4u180 ?_; (case k1u180 => k_asm); (case k2u180 => k_asm); (case k3u180 => exact IntsAt.keeps (by assumption) (Fr.keep (by assumption))); (case k4u180 => (first | assumption | exact Nat.le_trans (by assumption) (by decide) | exact Nat.lt_of_le_of_lt (by assumption) (by decide) | omega)); k_whole); intro zD' zh' zc' zts' ze' zF' zN' zl1; (try k_lt zl1))) | (k_here; (with_reducible show wpAny _ _ (binaryOp Operator.Add (Value.ref _) (Value.ref _)) _ _ _); k_dflt (refine' r_listAdd ?k1u181 ?k2u181 ?k3u181 ?k4u181 ?k5u181 ?_; (case k1u181 => k_asm); (case k2u181 => k_asm); (case k3u181 => k_mem); (case k4u181 => k_mem); (case k5u181 => (first | assumption | exact Nat.le_trans (by assumption) (by decide) | exact Nat.lt_of_le_of_lt (by assumption) (by decide) | omega)); k_whole); intro zD' zh' zF' zN' zl1; (try k_lt zl1)) | ((with_reducible show wpAny _ _ (exec (Stmt.For (PySem.Expr.Name _ _) (PySem.Expr.Call _ _ _ _) _ _ _) _) _ _ _); (k_here; (with_unfolding_all refine' for_stop ?_ ?hsu182; (case hsu182 => exact fun _ => rfl); k_whole))) | ((with_reducible show wpAny _ _ (eval (PySem.Expr.Name _ _) _) _ _ _); (k_here; k_dflt (refine' PyProof.Rows.ld ?k1u183 ?k2u183 ?_; (case k1u183 => k_asm); (case k2u183 => first | with_reducible assumption | assumption); k_whole))) | ((with_reducible show wpAny _ _ (call (Value.builtin "len") _ _) _ _ _); (k_here; (show wpAny _ _ (call (Value.builtin _) [Value.ref _]) _ _ _); k_dflt (refine' rb_len ?k1u184 ?k4u184 ?_; (case k1u184 => exact IntsAt.keeps (by assumption) (Fr.keep (by assumption))); (case k4u184 => (first | assumption | exact Nat.le_trans (by assumption) (by decide) | exact Nat.lt_of_le_of_lt (by assumption) (by decide) | omega)); k_whole); intro zt9 zk9)) | walk1) | ((simp only [List.cons_append, List.nil_append]); walk1) | (leave1; try dsimp only) | fail "no step"))
        all_goals try first | exact (⟨#[]⟩ : Str) | exact (0 : Nat) | exact Value.none
        refine Stopped.mk ?_
        have F1 := (by assumption : Fr g' L' _ _)
        have N1 := (by assumption : News g' L' _ ((_, listOf (valsN _).toArray _) :: (_, listOf (valsN ((1, _) :: ts)).toArray 0) :: _))
        have ebs := (by assumption : List.map _ _ = loads)
        have hkl : ((1, tk) :: ts).length = over.length := by rw [List.length_cons]; omega
        refine for_rangeK (L := L') (n := over.length - 1) rfl rfl (by assumption) (rsmallN (by omega) (by omega) (by decide) (by decide)) (by rw [rsizeN]; omega) F1 N1 (fun j m led => Ex2 fun (bs : TI) (kc : Nat) => And9 (led = (_, listOf (valsN bs).toArray kc) :: (_, listOf (valsN ((1, _) :: ts)).toArray 0) :: _) (bs.map (·.1) = belowN over (keptF (over.length - 1) i) loads j) (bs.length = over.length) (m (Str.ofString "found") = some (.ref G)) (m (Str.ofString "over") = some (.ref O)) (m (Str.ofString "loads") = some (.ref P)) (m (Str.ofString "room") = some (.int room t)) (m (Str.ofString "below") = some (.ref _)) (m (Str.ofString "kept") = some (.ref _))) (fun _ _ => False) _ (fun p hp => hp) ?hJ2v22 ⟨_, _, rfl, ebs, ?hl2v22, m1, m2, m3, m4, rfl, rfl⟩ ?turn2v22 ?rest2v22 (fun _ _ h => h.elim)
        case hl2v22 => rw [← hlo, ← ebs, List.length_map]
        case hJ2v22 =>
          rintro j m led ⟨bs, kc, rfl, -⟩
          exact below_off
        case turn2v22 =>
          clear F1 N1
          intro I2 j t2 m2' led oI2 h tk hj HH9 F1 N1 off
          (try ((with_reducible show wpAny _ _ _ _ _ _); k_fold))
          obtain ⟨bs, kc, rfl, hbs, hbl, n1, n2, n3, n4, n5, n6⟩ := HH9
          obtain ⟨kN, hkN⟩ : ∃ kN, kN = over.length - 1 - j := ⟨_, rfl⟩
          have ek : ((over.length : Int) - 1) + (j : Int) * (-1) = (kN : Int) := by omega
          have e2 : ((kN : Int)).toNat = kN := Int.toNat_natCast kN
          have hk : 0 ≤ over.getD ((kN : Int)).toNat 0 ∧ over.getD ((kN : Int)).toNat 0 < (kN : Int) := by rw [e2]; exact ho3 kN (by omega) (by omega)
          obtain ⟨hk1, hk2⟩ := hk
          have hkq := kl_of N1
          have hkr : (kN : Int) < over.length := by omega
          have off1' := off _ (.head _)
          dsimp only at off1'
          rw [ek]
          dsimp only
          (repeat' (first | (k_unfold; (try dsimp only)) | (k_end; wrow_close) | ((with_reducible show wpAny _ _ (execs _ _) _ _ _); k_fold) | (k_here; (with_reducible show wpAny _ _ (setItem (Value.ref _) (Value.int _ _) (Value.int _ _)) _ _ _); k_dflt (refine' r_setInt ?k1u185 ?k2u185 ?k3u185 ?k4u185 ?k5u185 ?k6u185 ?_; (case k1u185 => k_asm); (case k2u185 => k_asm); (case k3u185 => k_updF); (case k4u185 => (first | assumption | exact Nat.le_trans (by assumption) (by decide) | exact Nat.lt_of_le_of_lt (by assumption) (by decide) | omega)); (case k5u185 => (first | assumption | exact Nat.le_trans (by assumption) (by decide) | exact Nat.lt_of_le_of_lt (by assumption) (by decide) | omega)); (case k6u185 => (first | assumption | exact Nat.le_trans (by assumption) (by decide) | exact Nat.lt_of_le_of_lt (by assumption) (by decide) | omega)); k_whole); intro zh' zF' zN') | (k_here; (with_reducible show wpAny _ _ (subscriptTail _ _ (Value.ref _) (Value.int _ _)) _ _ _); k_dflt (refine' r_intL ?k1u186 ?k2u186 ?k3u186 ?k4u186 ?k5u186 ?_ ?k6u186; (case k1u186 => k_asm); (case k2u186 => k_mem); (case k3u186 => (first | assumption | exact Nat.le_trans (by assumption) (by decide) | exact Nat.lt_of_le_of_lt (by assumption) (by decide) | omega)); (case k4u186 => (first | assumption | exact Nat.le_trans (by assumption) (by decide) | exact Nat.lt_of_le_of_lt (by assumption) (by decide) | omega)); (case k5u186 => (first | assumption | exact Nat.le_trans (by assumption) (by decide) | exact Nat.lt_of_le_of_lt (by assumption) (by decide) | omega)); (case k6u186 => with_unfolding_all rfl); k_whole); intro zt9) | (k_here; (with_reducible show wpAny _ _ (subscriptTail _ _ (Value.ref _) (Value.int _ _)) _ _ _); k_dflt (refine' r_intAt ?k1u187 ?k2u187 ?k3u187 ?k4u187 ?_ ?k6u187; (case k1u187 => exact IntsAt.keeps (by assumption) (Fr.keep (by assumption))); (case k2u187 => (first | assumption | exact Nat.le_trans (by assumption) (by decide) | exact Nat.lt_of_le_of_lt (by assumption) (by decide) | omega)); (case k3u187 => (first | assumption | exact Nat.le_trans (by assumption) (by decide) | exact Nat.lt_of_le_of_lt (by assumption) (by decide) | omega)); (case k4u187 => (first | assumption | exact Nat.le_trans (by assumption) (by decide) | exact Nat.lt_of_le_of_lt (by assumption) (by decide) | omega)); (case k6u187 => with_unfolding_all rfl); k_whole); intro zt9) | ((with_reducible show wpAny _ _ (eval (PySem.Expr.Name _ _) _) _ _ _); (k_here; k_dflt (refine' PyProof.Rows.ld ?k1u188 ?k2u188 ?_; (case k1u188 => k_asm); (case k2u188 => first | with_reducible assumption | assumption); k_whole))) | walk1 | (dsimp only; first | (k_here; (with_reducible show wpAny _ _ (setItem (Value.ref _) (Value.int _ _) (Value.int _ _)) _ _ _); k_dflt (refine' r_setInt ?k1u189 ?k2u189 ?k3u189 ?k4u189 ?k5u189 ?k6u189 ?_; (case k1u189 => k_asm); (case k2u189 => k_asm); (case k3u189 => k_updF); (case k4u189 => (first | assumption | exact Nat.le_trans (by assumption) (by decide) | exact Nat.lt_of_le_of_lt (by assumption) (by decide) | omega)); (case k5u189 => (first | assumption | exact Nat.le_trans (by assumption) (by decide) | exact Nat.lt_of_le_of_lt (by assumption) (by decide) | omega)); (case k6u189 => (first | assumption | exact Nat.le_trans (by assumption) (by decide) | exact Nat.lt_of_le_of_lt (by assumption) (by decide) | omega)); k_whole); intro zh' zF' zN') | (k_here; (with_reducible show wpAny _ _ (subscriptTail _ _ (Value.ref _) (Value.int _ _)) _ _ _); k_dflt (refine' r_intL ?k1u190 ?k2u190 ?k3u190 ?k4u190 ?k5u190 ?_ ?k6u190; (case k1u190 => k_asm); (case k2u190 => k_mem); (case k3u190 => (first | assumption | exact Nat.le_trans (by assumption) (by decide) | exact Nat.lt_of_le_of_lt (by assumption) (by decide) | omega)); (case k4u190 => (first | assumption | exact Nat.le_trans (by assumption) (by decide) | exact Nat.lt_of_le_of_lt (by assumption) (by decide) | omega)); (case k5u190 => (first | assumption | exact Nat.le_trans (by assumption) (by decide) | exact Nat.lt_of_le_of_lt (by assumption) (by decide) | omega)); (case k6u190 => with_unfolding_all rfl); k_whole); intro zt9) | (k_here; (with_reducible show wpAny _ _ (subscriptTail _ _ (Value.ref _) (Value.int _ _)) _ _ _); k_dflt (refine' r_intAt ?k1u191 ?k2u191 ?k3u191 ?k4u191 ?_ ?k6u191; (case k1u191 => exact IntsAt.keeps (by assumption) (Fr.keep (by assumption))); (case k2u191 => (first | assumption | exact Nat.le_trans (by assumption) (by decide) | exact Nat.lt_of_le_of_lt (by assumption) (by decide) | omega)); (case k3u191 => (first | assumption | exact Nat.le_trans (by assumption) (by decide) | exact Nat.lt_of_le_of_lt (by assumption) (by decide) | omega)); (case k4u191 => (first | assumption | exact Nat.le_trans (by assumption) (by decide) | exact Nat.lt_of_le_of_lt (by assumption) (by decide) | omega)); (case k6u191 => with_unfolding_all rfl); k_whole); intro zt9) | ((with_reducible show wpAny _ _ (eval (PySem.Expr.Name _ _) _) _ _ _); (k_here; k_dflt (refine' PyProof.Rows.ld ?k1u192 ?k2u192 ?_; (case k1u192 => k_asm); (case k2u192 => first | with_reducible assumption | assumption); k_whole))) | walk1) | ((simp only [List.cons_append, List.nil_append]); walk1) | (leave1; try dsimp only) | fail "no step"))
          all_goals try first | exact (⟨#[]⟩ : Str) | exact (0 : Nat) | exact Value.none
          · have a1 := (by assumption : List.getD (α := Int) (List.map _ (_ :: ts)) _ _ = (1 : Int))
            have F2 := (by assumption : Fr g' L' _ _)
            rw [kept_of hts] at a1
            exact Stopped.mk ⟨_, _, _, _, rfl, F2, by assumption, _, _, rfl, below_pos hkN hbs a1, by rw [List.length_set]; exact hbl, n1, n2, n3, n4, n5, n6⟩
          · have a1 := (by assumption : List.getD (α := Int) (List.map _ (_ :: ts)) _ _ ≠ (1 : Int))
            have F2 := (by assumption : Fr g' L' _ _)
            rw [kept_of hts] at a1
            exact Stopped.mk ⟨_, _, _, _, rfl, F2, by assumption, _, _, rfl, below_neg hkN hbs a1, hbl, n1, n2, n3, n4, n5, n6⟩
        case rest2v22 =>
          clear F1 N1
          rintro m2' led h tk ⟨bs, kc, rfl, hbs, hbl, n1, n2, n3, n4, n5, n6⟩ F1 N1
          have hn7 : over.length - 1 ≤ 7 := by omega
          have h128 : 2 ^ (over.length - 1) ≤ 2 ^ 7 := Nat.pow_le_pow_right (by decide) hn7
          have hil : its.length ≤ 128 := by
            have := fewL_len (over := over) (loads := loads) (room := room) i
            rw [← hits, List.length_map] at this
            omega
          dsimp only
          (repeat' (first | (k_unfold; (try dsimp only)) | (k_end; wrow_close) | ((with_reducible show wpAny _ _ (execs _ _) _ _ _); k_fold) | (k_here; (with_reducible show wpAny _ _ (subscriptTail _ _ (Value.ref _) (Value.int _ _)) _ _ _); k_dflt (refine' r_intL ?k1u193 ?k2u193 ?k3u193 ?k4u193 ?k5u193 ?_ ?k6u193; (case k1u193 => k_asm); (case k2u193 => k_mem); (case k3u193 => (first | assumption | exact Nat.le_trans (by assumption) (by decide) | exact Nat.lt_of_le_of_lt (by assumption) (by decide) | omega)); (case k4u193 => (first | assumption | exact Nat.le_trans (by assumption) (by decide) | exact Nat.lt_of_le_of_lt (by assumption) (by decide) | omega)); (case k5u193 => (first | assumption | exact Nat.le_trans (by assumption) (by decide) | exact Nat.lt_of_le_of_lt (by assumption) (by decide) | omega)); (case k6u193 => with_unfolding_all rfl); k_whole); intro zt9) | ((with_reducible show wpAny _ _ (call (Value.builtin "list.count") _ _) _ _ _); (k_here; k_dflt (refine' r_count0 ?k1u194 ?k2u194 ?_; (case k1u194 => k_asm); (case k2u194 => k_mem); k_whole); intro zt9 zk9)) | ((with_reducible show wpAny _ _ (call (Value.builtin "max") _ _) _ _ _); (k_here; (show wpAny _ _ (call (Value.builtin _) [Value.ref _]) _ _ _); k_dflt (refine' r_maxI ?k0u195 ?k1u195 ?k2u195 ?k3u195 ?k4u195 ?_; (case k0u195 => exact rfl); (case k1u195 => k_asm); (case k2u195 => k_asm); (case k3u195 => k_mem); (case k4u195 => (first | assumption | exact Nat.le_trans (by assumption) (by decide) | exact Nat.lt_of_le_of_lt (by assumption) (by decide) | omega)); k_whole); intro zh' zt9 ztk9 zF' zN')) | ((with_reducible show wpAny _ _ (eval (PySem.Expr.Name _ _) _) _ _ _); (k_here; k_dflt (refine' PyProof.Rows.ld ?k1u196 ?k2u196 ?_; (case k1u196 => k_asm); (case k2u196 => first | with_reducible assumption | assumption); k_whole))) | ((with_reducible show wpAny _ _ (call (Value.builtin "list.append") _ _) _ _ _); (k_here; (show wpAny _ _ (call (Value.builtin _) [Value.ref _, _]) _ _ _); k_dflt (refine' rv_append ?k1u197 ?k2u197 ?k3u197 ?k4u197 ?_; (case k1u197 => k_asm); (case k2u197 => k_asm); (case k3u197 => k_updF); (case k4u197 => ((try simp only [List.length_map, List.length_append, List.length_cons, List.length_nil]); (first | assumption | exact Nat.le_trans (by assumption) (by decide) | exact Nat.lt_of_le_of_lt (by assumption) (by decide) | omega))); k_whole); intro zh' zF' zN')) | walk1 | (dsimp only; first | (k_here; (with_reducible show wpAny _ _ (subscriptTail _ _ (Value.ref _) (Value.int _ _)) _ _ _); k_dflt (refine' r_intL ?k1u198 ?k2u198 ?k3u198 ?k4u198 ?k5u198 ?_ ?k6u198; (case k1u198 => k_asm); (case k2u198 => k_mem); (case k3u198 => (first | assumption | exact Nat.le_trans (by assumption) (by decide) | exact Nat.lt_of_le_of_lt (by assumption) (by decide) | omega)); (case k4u198 => (first | assumption | exact Nat.le_trans (by assumption) (by decide) | exact Nat.lt_of_le_of_lt (by assumption) (by decide) | omega)); (case k5u198 => (first | assumption | exact Nat.le_trans (by assumption) (by decide) | exact Nat.lt_of_le_of_lt (by assumption) (by decide) | omega)); (case k6u198 => with_unfolding_all rfl); k_whole); intro zt9) | ((with_reducible show wpAny _ _ (call (Value.builtin "list.count") _ _) _ _ _); (k_here; k_dflt (refine' r_count0 ?k1u199 ?k2u199 ?_; (case k1u199 => k_asm); (case k2u199 => k_mem); k_whole); intro zt9 zk9)) | ((with_reducible show wpAny _ _ (call (Value.builtin "max") _ _) _ _ _); (k_here; (show wpAny _ _ (call (Value.builtin _) [Value.ref _]) _ _ _); k_dflt (refine' r_maxI ?k0u200 ?k1u200 ?k2u200 ?k3u200 ?k4u200 ?_; (case k0u200 => exact rfl); (case k1u200 => k_asm); (case k2u200 => k_asm); (case k3u200 => k_mem); (case k4u200 => (first | assumption | exact Nat.le_trans (by assumption) (by decide) | exact Nat.lt_of_le_of_lt (by assumption) (by decide) | omega)); k_whole); intro zh' zt9 ztk9 zF' zN')) | ((with_reducible show wpAny _ _ (eval (PySem.Expr.Name _ _) _) _ _ _); (k_here; k_dflt (refine' PyProof.Rows.ld ?k1u201 ?k2u201 ?_; (case k1u201 => k_asm); (case k2u201 => first | with_reducible assumption | assumption); k_whole))) | ((with_reducible show wpAny _ _ (call (Value.builtin "list.append") _ _) _ _ _); (k_here; (show wpAny _ _ (call (Value.builtin _) [Value.ref _, _]) _ _ _); k_dflt (refine' rv_append ?k1u202 ?k2u202 ?k3u202 ?k4u202 ?_; (case k1u202 => k_asm); (case k2u202 => k_asm); (case k3u202 => k_updF); (case k4u202 => ((try simp only [List.length_map, List.length_append, List.length_cons, List.length_nil]); (first | assumption | exact Nat.le_trans (by assumption) (by decide) | exact Nat.lt_of_le_of_lt (by assumption) (by decide) | omega))); k_whole); intro zh' zF' zN')) | walk1) | ((simp only [List.cons_append, List.nil_append]); walk1) | (leave1; try dsimp only) | fail "no step"))
          all_goals try first | exact (⟨#[]⟩ : Str) | exact (0 : Nat) | exact Value.none
          · have a1 := (by assumption : maxL _ ≤ room)
            rw [hbs] at a1
            have F2 := (by assumption : Fr g' L' _ _)
            have N2 := (by assumption : News g' L' _ ((_, tup2 [.int _ _, .int _ _]) :: _))
            rw [kept_of hts, hbs, ← fvals_snoc (q := (_, _))] at N2
            refine Stopped.mk ⟨_, _, _, _, rfl, F2, News.sub N2 sub_few, G, _, _, _, _, rfl, ⟨_, (by assumption)⟩, hG, hA1.cons (by dsimp only; omega), hA2.cons (by dsimp only; omega), List.forall_mem_cons.mpr ⟨rfl, hcl⟩, hfi.snoc, ?_, n1, n2, n3, n4⟩
            rw [List.map_append, hits, fewL_pos a1]
            rfl
          · have a1 := (by assumption : ¬ maxL _ ≤ room)
            rw [hbs] at a1
            have F2 := (by assumption : Fr g' L' _ _)
            have N2 := (by assumption : News g' L' _ ((_, listOf (valsN bs).toArray _) :: _))
            refine Stopped.mk ⟨_, _, _, _, rfl, F2, News.sub N2 (fun p hp => .tail _ (.tail _ (.tail _ (.tail _ hp)))), G, its, kk, _, tl, rfl, ⟨_, (by assumption)⟩, hG, hA1, hA2, hcl, hfi, by rw [fewL_neg a1]; exact hits, n1, n2, n3, n4⟩
    case restv22 =>
      clear F1 N1
      rintro m led h tk ⟨G, its, kk, oc, tl, rfl, ⟨ov, hoc⟩, hG, hA1, hA2, hcl, hfi, hits, m1, m2, m3, m4⟩ F1 N1
      have hip : 0 < its.length := by rw [← hits, List.length_map] at hfl; exact hfl
      dsimp only
      (repeat' (first | (k_unfold; (try dsimp only)) | (k_end; wrow_close) | ((with_reducible show wpAny _ _ (execs _ _) _ _ _); k_fold) | ((with_reducible show wpAny _ _ (eval (PySem.Expr.Name _ _) _) _ _ _); (k_here; k_dflt (refine' PyProof.Rows.ld ?k1u203 ?k2u203 ?_; (case k1u203 => k_asm); (case k2u203 => first | with_reducible assumption | assumption); k_whole))) | walk1 | (dsimp only; first | ((with_reducible show wpAny _ _ (eval (PySem.Expr.Name _ _) _) _ _ _); (k_here; k_dflt (refine' PyProof.Rows.ld ?k1u204 ?k2u204 ?_; (case k1u204 => k_asm); (case k2u204 => first | with_reducible assumption | assumption); k_whole))) | walk1) | ((simp only [List.cons_append, List.nil_append]); walk1) | (leave1; try dsimp only) | fail "no step"))
      all_goals try first | exact (⟨#[]⟩ : Str) | exact (0 : Nat) | exact Value.none
      have F2 := (by assumption : Fr g' L' _ _)
      have N2 := (by assumption : News g' L' _ ((G, _) :: _))
      refine r_minF (tl := tl) rfl (by (first | exact room2 (by assumption) rfl | exact room1 (by assumption) rfl | exact room0 (by assumption) | exact blt rfl | ktr_units)) F2 N2 (.head _) (fun p hp => .tail _ (.tail _ hp)) hfi hip (fun h' tk q hq F3 N3 => ?_)
      clear F2 N2
      rw [hits] at hq
      have hqm : q ∈ its := List.mem_of_getElem? hq
      obtain ⟨ta, tb, hmm⟩ := hfi q hqm
      have hq2 : (fewL over loads room (2 ^ (over.length - 1)))[bestL (fewL over loads room (2 ^ (over.length - 1)))]? = some q.2 := by
        have := congrArg (Option.map (fun x : FIt => x.2)) hq
        rw [← List.getElem?_map, hits] at this
        exact this
      (repeat' (first | (k_unfold; (try dsimp only)) | (k_end; wrow_close) | ((with_reducible show wpAny _ _ (execs _ _) _ _ _); k_fold) | walk1 | (dsimp only; first | walk1) | ((simp only [List.cons_append, List.nil_append]); walk1) | (leave1; try dsimp only) | fail "no step"))
      have N4 := (by assumption : News h₀ L _ ((G, _) :: _))
      exact hret _ _ _ _ ⟨(q.1, ⟨q.2, hq2⟩, ta, tb), rfl, rfl⟩ (by assumption) (News.sub N4 (fun p hp => by rw [List.mem_singleton.mp hp]; exact .tail _ (.tail _ hmm))) (by assumption)
  have cut_ok : ∀ w, CutSpec Mine.main.heap_1_39 Mine.main.view_1_40 w := by
    intro w
    have S0 : ConvSpec Mine.main.heap_1_39 Mine.main.view_1_40 w := conv_ok w
    have S1 : HfySpec Mine.main.heap_1_39 Mine.main.view_1_40 w := hfy_ok w
    have S2 : PopSpecQ Mine.main.heap_1_39 Mine.main.view_1_40 w := PopSpec.q (pop_ok w)
    have S3 : PushSpecQ Mine.main.heap_1_39 Mine.main.view_1_40 w := PushSpec.q (push_ok w)
    have S4 : GetAllSpec Mine.main.heap_1_39 Mine.main.view_1_40 w := getall_ok w
    have S5 : SetSpecQ Mine.main.heap_1_39 Mine.main.view_1_40 w := SetSpec.q (set_ok w)
    have S6 : AddSpecQ Mine.main.heap_1_39 Mine.main.view_1_40 w := AddSpec.q (add_ok w)
    have S7 : DirSpec Mine.main.heap_1_39 Mine.main.view_1_40 w := dirname_ok w
    clear few_ok head_ok places_ok over_ok add_ok set_ok has_ok get_ok del_ok items_ok lenh_ok getall_ok conv_ok hfy_ok pop_ok push_ok su_ok sd_ok join_ok dirname_ok fspath_ok getsep_ok
    unfold CutSpec CallOk
    k_fill
    intro P LD ss ld room t hs1 hs2 hs3 hs4 mean mg mb dp un gd cn cs a ccd cl outer A₀ base h₀ L m s Q E B F X N T hk hd hu hpre hret
    refine wpAny_call ?_
    k_dflt (refine' plainG ?k1v23 ?k2v23 ?k3v23 ?k4v23 ?k5v23 ?kAv23 ?kFv23 ?kKv23 ?k6v23 ?k7v23 ?k8v23 ?k9v23 ?kBv23 ?_ ?c2v23 ?c3v23 ?c4v23 ?c5v23; (case kAv23 => exact rfl); (case kFv23 => exact rfl); (case kKv23 => assumption); (case k1v23 => k_asm); (case k2v23 => k_asm); (case k3v23 => k_asm); (case k4v23 => k_asm); (case k5v23 => k_asm); (case k6v23 => k_is); (case k7v23 => k_is); (case k8v23 => (first | exact room2 (by assumption) rfl | exact room1 (by assumption) rfl | exact room0 (by assumption) | exact blt rfl | ktr_room)); (case k9v23 => first | exact BindsTo.of_eq rfl | exact binds_K (by k_in) rfl (by k_is) rfl rfl rfl); (case kBv23 => exact locs rfl); (case c5v23 => decide); (case c2v23 => exact rfl); (case c3v23 => exact rfl); (case c4v23 => exact rfl); k_whole; intro g' L' h' FG' F' N' B' X' T' hg'; (try dsimp only); (try k_fold))
    obtain ⟨⟨tss, kp, rfl, hP⟩, hLD⟩ := hpre
    have hLD0 : DictAt w g' LD (tss.map (·.1)) ld := hLD.keeps (fun b o e => hg' b o e (by simp))
    have hP0 : g'.get? P = some (listOf (valsS tss).toArray kp) := hg' _ _ hP (by simp)
    (repeat' (first | (k_unfold; (try dsimp only)) | (k_end; wrow_close) | ((with_reducible show wpAny _ _ (execs _ _) _ _ _); k_fold) | ((with_reducible show LCg.CompSrc _ _ _ _ _ _ _ _ _ _ _ _ _ _); (refine stop_here ?_)) | ((with_reducible show wpAny _ _ (exec (Stmt.Assign [_] (PySem.Expr.ListComp _ _ _ _) _) _) _ _ _); (k_here; k_dflt (refine LCg.Assign_ListComp_U (F₀ := by k_asm) (by rfl) (by with_unfolding_all rfl) (by with_unfolding_all rfl) (by decide) (by rfl) (by decide) (by rfl) (by rfl) (by rfl) ?_))) | walk1 | (dsimp only; first | ((with_reducible show LCg.CompSrc _ _ _ _ _ _ _ _ _ _ _ _ _ _); (refine stop_here ?_)) | ((with_reducible show wpAny _ _ (exec (Stmt.Assign [_] (PySem.Expr.ListComp _ _ _ _) _) _) _ _ _); (k_here; k_dflt (refine LCg.Assign_ListComp_U (F₀ := by k_asm) (by rfl) (by with_unfolding_all rfl) (by with_unfolding_all rfl) (by decide) (by rfl) (by decide) (by rfl) (by rfl) (by rfl) ?_))) | walk1) | ((simp only [List.cons_append, List.nil_append]); walk1) | (leave1; try dsimp only) | fail "no step"))
    all_goals try first | exact (⟨#[]⟩ : Str) | exact (0 : Nat) | exact Value.none
    refine Stopped.mk ?_
    have F1 := (by assumption : Fr g' L' _ _)
    have N1 := (by assumption : News g' L' _ (_ :: _ :: _ :: _ :: _ :: _ :: []))
    refine LCg.CompSrc.base rfl F1 N1 ⟨_, hP0, rfl, _, rfl⟩ (by rw [List.size_toArray, List.length_map, sizeLine_eq]; rw [List.length_map] at hs1; omega) (fun g => ?_)
    refine comp_inv (fun i ys news => Ex2 fun (its : List It) (tl : Led) => And5 (news = _ :: _ :: _ :: _ :: _ :: _ :: tl) (ys = valsI its) (its.map (·.2) = ((tss.map (·.1)).take i).map keyP) (PIn tl its) ((∀ p ∈ tl, p.2.cls = .type "tuple"))) ?turnv23 ?finv23 _ 0 [] _ (Nat.zero_add _) ⟨[], [], rfl, rfl, rfl, (fun _ h => nomatch h), (fun _ h => nomatch h)⟩
    case turnv23 =>
      clear F1 N1
      intro i ys news v I oI C oC D m2' h tk E' hi HH14 hv hC hx F2 N2 o1 o2
      (try ((with_reducible show wpAny _ _ _ _ _ _); k_fold))
      obtain ⟨its, tl, rfl, rfl, hits, htl, hcl⟩ := HH14
      obtain ⟨q, hq, rfl⟩ := val_at hv
      have hql : q.1.length ≤ 16 := (pl_facts (hs2 q.1 (List.mem_map_of_mem (List.mem_of_getElem? hq)))).2.2.2.2.2.1
      dsimp only [List.cons_append, List.nil_append] at N2 o1
      dsimp only
      (repeat' (first | (k_unfold; (try dsimp only)) | (k_end; wrow_close) | ((with_reducible show wpAny _ _ (execs _ _) _ _ _); k_fold) | walk1 | (dsimp only; first | walk1) | ((simp only [List.cons_append, List.nil_append]); walk1) | (leave1; try dsimp only) | fail "no step"))
      have F3 := (by assumption : Fr g' L' _ _)
      have N3 := (by assumption : News g' L' _ ((_, tup2 [.int _ _, .str _ _]) :: (I, oI) :: _))
      obtain ⟨l1a, l1b, l1c, -⟩ := (by assumption : (@LT.lt Nat _ I _) ∧ (@LT.lt Nat _ C _) ∧ (@LT.lt Nat _ D _) ∧ _)
      refine LCg.CompEnd.intro F3 N3 (_ :: _ :: _ :: _ :: _ :: _ :: (_, tup2 [.int _ _, .str _ _]) :: tl) (sub_put (l := [_, _, _, _, _, _])) (off3_put (l := [_, _, _, _, _, _]) o1 (by dsimp only; omega) (by dsimp only; omega) (by dsimp only; omega)) (.inl ⟨_, hP0, rfl, _, rfl⟩) ⟨its ++ [(_, (-(q.1.length : Int), q.1))], (_, tup2 [.int _ _, .str _ _]) :: tl, rfl, valsI_snoc.symm, ?_, ?_, ?_⟩
      · rw [List.map_append, hits, take_at (q := q.1) (by rw [List.getElem?_map, hq]; rfl), List.map_append]; rfl
      · intro p hp
        rcases List.mem_append.mp hp with hp | hp
        · obtain ⟨t, u, e⟩ := htl p hp
          exact ⟨t, u, .tail _ e⟩
        · rw [List.mem_singleton.mp hp]
          exact ⟨_, _, .head _⟩
      · exact List.forall_mem_cons.mpr ⟨rfl, hcl⟩
    case finv23 =>
      clear F1 N1
      rintro ys news ⟨its, tl, rfl, rfl, hits, htl, hcl⟩
      have hil : its.length ≤ 8 := by
        have := congrArg List.length hits
        rw [List.length_map, List.length_map, List.length_take] at this
        omega
      (repeat' (first | (k_unfold; (try dsimp only)) | (k_end; wrow_close) | ((with_reducible show wpAny _ _ (execs _ _) _ _ _); k_fold) | (k_here; (with_reducible show wpAny _ _ (call (Value.ref 207) _ _) _ _ _); (try dsimp only); k_dflt (refine' CallOk.useU0 ((show HfySpec _ _ _ by assumption) _ _ _ ?q1u209) ?k1u209 ?k2u209 ?k3u209 ?k4u209 ?k5u209 ?kKu209 ?kdu209 ?kuu209 ?kpu209 ?h1u209 ?hUu209 ?_; (case k1u209 => k_asm); (case k2u209 => k_asm); (case k3u209 => k_asm); (case k4u209 => k_asm); (case k5u209 => k_asm); (case kKu209 => first | exact rfl | assumption); (case kdu209 => (first | exact room2 (by assumption) rfl | exact room1 (by assumption) rfl | exact room0 (by assumption) | exact blt rfl | ktr_room)); (case kuu209 => (first | exact room2 (by assumption) rfl | exact room1 (by assumption) rfl | exact room0 (by assumption) | exact blt rfl | ktr_units)); (case hUu209 => k_updF); (case h1u209 => exact fun _ h => nomatch h); (case kpu209 => (refine' items_of ?kau209 ?kbu209 ?kcu209; (case kau209 => k_asm); (case kcu209 => assumption); (case kbu209 => exact fun p hp => by (repeat (first | exact hp | refine List.Mem.tail _ ?_))))); (case q1u209 => (first | assumption | exact Nat.le_trans (by assumption) (by decide) | exact Nat.lt_of_le_of_lt (by assumption) (by decide) | omega)); skip); intro zh9 ztk9 zF9 zN9 zst9; (try dsimp only); (try k_sweep)) | ((with_reducible show wpAny _ _ (exec (Stmt.While _ _ _ _) _) _ _ _); (refine stop_here ?_)) | walk1 | (dsimp only; first | (k_here; (with_reducible show wpAny _ _ (call (Value.ref 207) _ _) _ _ _); (try dsimp only); k_dflt (refine' CallOk.useU0 ((show HfySpec _ _ _ by assumption) _ _ _ ?q1u211) ?k1u211 ?k2u211 ?k3u211 ?k4u211 ?k5u211 ?kKu211 ?kdu211 ?kuu211 ?kpu211 ?h1u211 ?hUu211 ?_; (case k1u211 => k_asm); (case k2u211 => k_asm); (case k3u211 => k_asm); (case k4u211 => k_asm); (case k5u211 => k_asm); (case kKu211 => first | exact rfl | assumption); (case kdu211 => (first | exact room2 (by assumption) rfl | exact room1 (by assumption) rfl | exact room0 (by assumption) | exact blt rfl | ktr_room)); (case kuu211 => (first | exact room2 (by assumption) rfl | exact room1 (by assumption) rfl | exact room0 (by assumption) | exact blt rfl | ktr_units)); (case hUu211 => k_updF); (case h1u211 => exact fun _ h => nomatch h); (case kpu211 => (refine' items_of ?kau211 ?kbu211 ?kcu211; (case kau211 => k_asm); (case kcu211 => assumption); (case kbu211 => exact fun p hp => by (repeat (first | exact hp | refine List.Mem.tail _ ?_))))); (case q1u211 => (first | assumption | exact Nat.le_trans (by assumption) (by decide) | exact Nat.lt_of_le_of_lt (by assumption) (by decide) | omega)); skip); intro zh9 ztk9 zF9 zN9 zst9; (try dsimp only); (try k_sweep)) | ((with_reducible show wpAny _ _ (exec (Stmt.While _ _ _ _) _) _ _ _); (refine stop_here ?_)) | walk1) | ((simp only [List.cons_append, List.nil_append]); walk1) | (leave1; try dsimp only) | fail "no step"))
      refine Stopped.mk ?_
      have F1 := (by assumption : Fr g' L' _ _)
      have N1 := (by assumption : News g' L' _ ((_, listOf (valsI (hfyI its)).toArray _) :: (_, instObj 182 _) :: (_, hdD w _ _) :: (_, listOf (hvals []).toArray _) :: (_, instObj 182 _) :: (_, hdD w _ _) :: (_, listOf (hvals []).toArray _) :: tl))
      obtain ⟨he1, he2⟩ := hfy_heap its
      refine cut_while (s := s) (P := P) (LD := LD) (ld := ld) (room := room) (ss := tss.map (·.1)) (r := sortP ((tss.map (·.1)).map keyP)) F1 N1 ⟨_, _, rfl⟩ ?hnev23 ⟨rfl, rfl, rfl, rfl, rfl, rfl, rfl⟩ ?initv23 ?turn2v23 ?rest2v23
      case hnev23 => exact ⟨by omega, by omega, by omega⟩
      case initv23 =>
        have hf : (tss.map (·.1)).take (valsS tss).toArray.size = tss.map (·.1) := by
          rw [List.size_toArray, List.length_map, ← List.length_map (f := fun q : Str × Tok => q.1), List.take_length]
        rw [hf] at hits
        refine ⟨htl.mono (fun _ h => h) (fun q hq => he2.mem_iff.mp hq), (fun _ h => nomatch h), (fun _ h => nomatch h), hcl, he1, ?_, sortP_sorted _, rfl, ?_, ?_, Nat.zero_le _, (fun _ h => nomatch h), (fun _ h => nomatch h)⟩
        · have := he2.map (·.2)
          rw [hits] at this
          exact this.trans (sortP_perm _).symm
        · intro q hq
          obtain ⟨x, hx, rfl⟩ := List.mem_map.mp ((sortP_perm _).mem_iff.mp hq)
          exact hx
        · have := he2.length_eq
          dsimp only [List.length_nil]
          omega
      case turn2v23 =>
        clear F1 N1
        intro k s' HH2 HH3
        (try ((with_reducible show wpAny _ _ _ _ _ _); k_fold))
        obtain ⟨hn1, hn2, hn3⟩ := HH2
        obtain ⟨its, hk, ck, kk, n1, n2, tl, m, h, tk, load, tl0, r, rfl, F1, N1, rfl, ⟨m1, m2, m3, m4, m5, m6, m7⟩, ⟨q1, q2, q3, q4, q5, q6, q7, q8, q9, q10, q11, q12, q13⟩⟩ := HH3
        obtain ⟨e1, e2, e3, e4, e5, e6, e7, e8, e9, e10, e11, e12, e13, e14, e15⟩ := cut_ne N1 q4
        cases r with
        | nil =>
          have hr0 : its.length = 0 := perm_len q6
          have hdec : decide (0 < its.length) = false := decide_eq_false (by omega)
          (try dsimp only)
          (repeat' (first | (k_unfold; (try dsimp only)) | (k_end; wrow_close) | ((with_reducible show wpAny _ _ (execs _ _) _ _ _); k_fold) | ((with_reducible show wpAny _ _ (compareOp CmpOp.NotEq (Value.ref _) (Value.ref _)) _ _ _); (k_here; k_dflt (refine' r_neNil ?k1u213 ?k2u213 ?k3u213 ?k4u213 ?k5u213 ?_; (case k1u213 => k_asm); (case k2u213 => k_mem); (case k3u213 => k_mem); (case k4u213 => assumption); (case k5u213 => (first | exact room2 (by assumption) rfl | exact room1 (by assumption) rfl | exact room0 (by assumption) | exact blt rfl | ktr_units)); k_whole))) | ((with_reducible show wpAny _ _ (eval (PySem.Expr.Name _ _) _) _ _ _); (k_here; k_dflt (refine' PyProof.Rows.ld ?k1u214 ?k2u214 ?_; (case k1u214 => k_asm); (case k2u214 => first | with_reducible assumption | assumption); k_whole))) | walk1 | (dsimp only; first | ((with_reducible show wpAny _ _ (compareOp CmpOp.NotEq (Value.ref _) (Value.ref _)) _ _ _); (k_here; k_dflt (refine' r_neNil ?k1u215 ?k2u215 ?k3u215 ?k4u215 ?k5u215 ?_; (case k1u215 => k_asm); (case k2u215 => k_mem); (case k3u215 => k_mem); (case k4u215 => assumption); (case k5u215 => (first | exact room2 (by assumption) rfl | exact room1 (by assumption) rfl | exact room0 (by assumption) | exact blt rfl | ktr_units)); k_whole))) | ((with_reducible show wpAny _ _ (eval (PySem.Expr.Name _ _) _) _ _ _); (k_here; k_dflt (refine' PyProof.Rows.ld ?k1u216 ?k2u216 ?_; (case k1u216 => k_asm); (case k2u216 => first | with_reducible assumption | assumption); k_whole))) | walk1) | ((simp only [List.cons_append, List.nil_append]); walk1) | (leave1; try dsimp only) | fail "no step"))
          have F2 := (by assumption : Fr g' L' _ _)
          have N2 := (by assumption : News g' L' _ ((_, listOf #[] 0) :: _))
          exact Stopped.mk ⟨its, hk, ck, kk, n1, n2, tl, _, _, _, load, tl0, [], rfl, F2, News.sub N2 (fun p hp => .tail _ hp), hr0.symm, ⟨m1, m2, m3, m4, m5, m6, m7⟩, ⟨q1, q2, q3, q4, q5, q6, q7, q8, q9, q10, q11, q12, q13⟩⟩
        | cons p0 r =>
          obtain ⟨len0, place⟩ := p0
          have o1 := (pop_perm q5 q6 q7).1
          have o2 := (pop_perm q5 q6 q7).2.1
          have o3 := (pop_perm q5 q6 q7).2.2.1
          have o4 := (pop_perm q5 q6 q7).2.2.2.1
          have o5 := (pop_perm q5 q6 q7).2.2.2.2
          obtain ⟨⟨qa, q'⟩, rest, hpop⟩ : ∃ q rest, popI its = (q, rest) := ⟨_, _, rfl⟩
          rw [hpop] at o1 o2 o3 o4 o5
          dsimp only at o1 o2 o3 o4 o5
          subst o2
          have hlen : 0 < its.length := List.length_pos_of_mem o1
          have hlen8 : its.length ≤ 8 := by omega
          have hdec : decide (0 < its.length) = true := decide_eq_true hlen
          obtain ⟨ta, tb, hqm⟩ := q1 _ o1
          have hpl : place ∈ tss.map (·.1) := q9 _ (.head _)
          dsimp only at hqm
          have hp7 : place ∈ pl 7 := hs2 _ hpl
          have pf1 := (pl_facts hp7).1
          have pf2 := (pl_facts hp7).2.1
          have pf3 := (pl_facts hp7).2.2.1
          have pf4 := (pl_facts hp7).2.2.2.1
          have pf5 := (pl_facts hp7).2.2.2.2.1
          have pf6 := (pl_facts hp7).2.2.2.2.2.1
          have pf7 := (pl_facts hp7).2.2.2.2.2.2.1
          have pf8 := (pl_facts hp7).2.2.2.2.2.2.2
          have hlu : clean (Txt.lower (Txt.upper place)) = true := by rw [pf4]; exact pf1
          have hlh : hdLens hk := hdLens_of (by omega) q12
          (try dsimp only)
          (repeat' (first | (k_unfold; (try dsimp only)) | (k_end; wrow_close) | ((with_reducible show wpAny _ _ (execs _ _) _ _ _); k_fold) | (k_here; (with_reducible show wpAny _ _ (subscriptTail _ _ (Value.ref _) (Value.str _ _)) _ _ _); k_dflt (refine' r_dict ?k1u217 ?k2u217 ?_ ?k6u217 ?k7u217; (case k1u217 => exact DictAt.keeps (by assumption) (Fr.keep (by assumption))); (case k2u217 => assumption); (case k6u217 => with_unfolding_all rfl); (case k7u217 => intro _; with_unfolding_all rfl); k_whole); intro zt9 zk9) | ((with_reducible show wpAny _ _ (compareOp CmpOp.NotEq (Value.ref _) (Value.ref _)) _ _ _); (k_here; k_dflt (refine' r_neNil ?k1u218 ?k2u218 ?k3u218 ?k4u218 ?k5u218 ?_; (case k1u218 => k_asm); (case k2u218 => k_mem); (case k3u218 => k_mem); (case k4u218 => assumption); (case k5u218 => (first | exact room2 (by assumption) rfl | exact room1 (by assumption) rfl | exact room0 (by assumption) | exact blt rfl | ktr_units)); k_whole))) | (k_here; (with_reducible show wpAny _ _ (call (Value.ref 121) _ _) _ _ _); (try dsimp only); k_dflt (refine' CallOk.useU ((show GetAllSpec _ _ _ by assumption) _ _ _ _ _ _ _ _ _ ?q1u219 ?q2u219 ?q3u219) ?k1u219 ?k2u219 ?k3u219 ?k4u219 ?k5u219 ?kKu219 ?kdu219 ?kuu219 ?kpu219 ?h1u219 ?hUu219 ?_; (case k1u219 => k_asm); (case k2u219 => k_asm); (case k3u219 => k_asm); (case k4u219 => k_asm); (case k5u219 => k_asm); (case kKu219 => first | exact rfl | assumption); (case kdu219 => (first | exact room2 (by assumption) rfl | exact room1 (by assumption) rfl | exact room0 (by assumption) | exact blt rfl | ktr_room)); (case kuu219 => (first | exact room2 (by assumption) rfl | exact room1 (by assumption) rfl | exact room0 (by assumption) | exact blt rfl | ktr_units)); (case h1u219 => (refine List.forall_mem_cons.mpr ⟨by k_mem, List.forall_mem_cons.mpr ⟨by k_mem, List.forall_mem_nil _⟩⟩)); (case hUu219 => k_updF); (case kpu219 => (refine' And.intro ?gau219 ?gbu219; (case gau219 => (refine' hat_of ?kau219 ?kbu219 ?kcu219; (case kau219 => k_asm); (case kcu219 => assumption); (case kbu219 => exact fun p hp => by (repeat (first | exact hp | refine List.Mem.tail _ ?_))))); (case gbu219 => (refine' Stand.cons ?kn1u219 (List.Mem.head _) ?ki1u219 (Stand.cons ?kn2u219 (List.Mem.tail _ (List.Mem.tail _ (List.Mem.head _))) ?ki2u219 (Stand.cons ?kn3u219 (List.Mem.tail _ (List.Mem.tail _ (List.Mem.tail _ (List.Mem.tail _ (List.Mem.tail _ (List.Mem.head _)))))) ?ki3u219 stand_nil)); (case kn1u219 => k_asm); (case kn2u219 => k_asm); (case kn3u219 => k_asm); (case ki1u219 => exact not_in3 (by (first | assumption | exact Nat.le_trans (by assumption) (by decide) | exact Nat.lt_of_le_of_lt (by assumption) (by decide) | omega)) (by (first | assumption | exact Nat.le_trans (by assumption) (by decide) | exact Nat.lt_of_le_of_lt (by assumption) (by decide) | omega)) (by (first | assumption | exact Nat.le_trans (by assumption) (by decide) | exact Nat.lt_of_le_of_lt (by assumption) (by decide) | omega))); (case ki2u219 => exact not_in3 (by (first | assumption | exact Nat.le_trans (by assumption) (by decide) | exact Nat.lt_of_le_of_lt (by assumption) (by decide) | omega)) (by (first | assumption | exact Nat.le_trans (by assumption) (by decide) | exact Nat.lt_of_le_of_lt (by assumption) (by decide) | omega)) (by (first | assumption | exact Nat.le_trans (by assumption) (by decide) | exact Nat.lt_of_le_of_lt (by assumption) (by decide) | omega))); (case ki3u219 => exact not_in3 (by (first | assumption | exact Nat.le_trans (by assumption) (by decide) | exact Nat.lt_of_le_of_lt (by assumption) (by decide) | omega)) (by (first | assumption | exact Nat.le_trans (by assumption) (by decide) | exact Nat.lt_of_le_of_lt (by assumption) (by decide) | omega)) (by (first | assumption | exact Nat.le_trans (by assumption) (by decide) | exact Nat.lt_of_le_of_lt (by assumption) (by decide) | omega))))))); (case q1u219 => assumption); (case q2u219 => (first | assumption | exact Nat.le_trans (by assumption) (by decide) | exact Nat.lt_of_le_of_lt (by assumption) (by decide) | omega)); (case q3u219 => assumption); skip); intro zy9 zh9 ztk9 zF9 zN9 zst9; (try dsimp only); (try k_sweep)) | (k_here; (with_reducible show wpAny _ _ (call (Value.ref 200) _ _) _ _ _); (try dsimp only); k_dflt (refine' CallOk.useU0 ((show PopSpecQ _ _ _ by assumption) _ _ _ _ _ ?q1u220 ?q2u220 ?q3u220) ?k1u220 ?k2u220 ?k3u220 ?k4u220 ?k5u220 ?kKu220 ?kdu220 ?kuu220 ?kpu220 ?h1u220 ?hUu220 ?_; (case k1u220 => k_asm); (case k2u220 => k_asm); (case k3u220 => k_asm); (case k4u220 => k_asm); (case k5u220 => k_asm); (case kKu220 => first | exact rfl | assumption); (case kdu220 => (first | exact room2 (by assumption) rfl | exact room1 (by assumption) rfl | exact room0 (by assumption) | exact blt rfl | ktr_room)); (case kuu220 => (first | exact room2 (by assumption) rfl | exact room1 (by assumption) rfl | exact room0 (by assumption) | exact blt rfl | ktr_units)); (case hUu220 => k_updF); (case h1u220 => exact fun _ h => nomatch h); (case kpu220 => (refine' items_of ?kau220 ?kbu220 ?kcu220; (case kau220 => k_asm); (case kcu220 => assumption); (case kbu220 => exact fun p hp => by (repeat (first | exact hp | refine List.Mem.tail _ ?_))))); (case q3u220 => assumption); (case q1u220 => (first | assumption | exact Nat.le_trans (by assumption) (by decide) | exact Nat.lt_of_le_of_lt (by assumption) (by decide) | omega)); (case q2u220 => (first | assumption | exact Nat.le_trans (by assumption) (by decide) | exact Nat.lt_of_le_of_lt (by assumption) (by decide) | omega)); skip); intro zh9 ztk9 zF9 zN9 zst9; (try dsimp only); (try k_sweep)) | ((with_reducible show wpAny _ _ (exec (Stmt.For (PySem.Expr.Name _ _) (PySem.Expr.Call _ _ _ _) _ _ _) _) _ _ _); (k_here; (with_unfolding_all refine' for_stop ?_ ?hsu221; (case hsu221 => exact fun _ => rfl); k_whole))) | ((with_reducible show wpAny _ _ (eval (PySem.Expr.Name _ _) _) _ _ _); (k_here; k_dflt (refine' PyProof.Rows.ld ?k1u222 ?k2u222 ?_; (case k1u222 => k_asm); (case k2u222 => first | with_reducible assumption | assumption); k_whole))) | walk1 | (dsimp only; first | (k_here; (with_reducible show wpAny _ _ (subscriptTail _ _ (Value.ref _) (Value.str _ _)) _ _ _); k_dflt (refine' r_dict ?k1u223 ?k2u223 ?_ ?k6u223 ?k7u223; (case k1u223 => exact DictAt.keeps (by assumption) (Fr.keep (by assumption))); (case k2u223 => assumption); (case k6u223 => with_unfolding_all rfl); (case k7u223 => intro _; with_unfolding_all rfl); k_whole); intro zt9 zk9) | ((with_reducible show wpAny _ _ (compareOp CmpOp.NotEq (Value.ref _) (Value.ref _)) _ _ _); (k_here; k_dflt (refine' r_neNil ?k1u224 ?k2u224 ?k3u224 ?k4u224 ?k5u224 ?_; (case k1u224 => k_asm); (case k2u224 => k_mem); (case k3u224 => k_mem); (case k4u224 => assumption); (case k5u224 => (first | exact room2 (by assumption) rfl | exact room1 (by assumption) rfl | exact room0 (by assumption) | exact blt rfl | ktr_units)); k_whole))) | (k_here; (with_reducible show wpAny _ _ (call (Value.ref 121) _ _) _ _ _); (try dsimp only); k_dflt (refine' CallOk.useU ((show GetAllSpec _ _ _ by assumption) _ _ _ _ _ _ _ _ _ ?q1u225 ?q2u225 ?q3u225) ?k1u225 ?k2u225 ?k3u225 ?k4u225 ?k5u225 ?kKu225 ?kdu225 ?kuu225 ?kpu225 ?h1u225 ?hUu225 ?_; (case k1u225 => k_asm); (case k2u225 => k_asm); (case k3u225 => k_asm); (case k4u225 => k_asm); (case k5u225 => k_asm); (case kKu225 => first | exact rfl | assumption); (case kdu225 => (first | exact room2 (by assumption) rfl | exact room1 (by assumption) rfl | exact room0 (by assumption) | exact blt rfl | ktr_room)); (case kuu225 => (first | exact room2 (by assumption) rfl | exact room1 (by assumption) rfl | exact room0 (by assumption) | exact blt rfl | ktr_units)); (case h1u225 => (refine List.forall_mem_cons.mpr ⟨by k_mem, List.forall_mem_cons.mpr ⟨by k_mem, List.forall_mem_nil _⟩⟩)); (case hUu225 => k_updF); (case kpu225 => (refine' And.intro ?gau225 ?gbu225; (case gau225 => (refine' hat_of ?kau225 ?kbu225 ?kcu225; (case kau225 => k_asm); (case kcu225 => assumption); (case kbu225 => exact fun p hp => by (repeat (first | exact hp | refine List.Mem.tail _ ?_))))); (case gbu225 => (refine' Stand.cons ?kn1u225 (List.Mem.head _) ?ki1u225 (Stand.cons ?kn2u225 (List.Mem.tail _ (List.Mem.tail _ (List.Mem.head _))) ?ki2u225 (Stand.cons ?kn3u225 (List.Mem.tail _ (List.Mem.tail _ (List.Mem.tail _ (List.Mem.tail _ (List.Mem.tail _ (List.Mem.head _)))))) ?ki3u225 stand_nil)); (case kn1u225 => k_asm); (case kn2u225 => k_asm); (case kn3u225 => k_asm); (case ki1u225 => exact not_in3 (by (first | assumption | exact Nat.le_trans (by assumption) (by decide) | exact Nat.lt_of_le_of_lt (by assumption) (by decide) | omega)) (by (first | assumption | exact Nat.le_trans (by assumption) (by decide) | exact Nat.lt_of_le_of_lt (by assumption) (by decide) | omega)) (by (first | assumption | exact Nat.le_trans (by assumption) (by decide) | exact Nat.lt_of_le_of_lt (by assumption) (by decide) | omega))); (case ki2u225 => exact not_in3 (by (first | assumption | exact Nat.le_trans (by assumption) (by decide) | exact Nat.lt_of_le_of_lt (by assumption) (by decide) | omega)) (by (first | assumption | exact Nat.le_trans (by assumption) (by decide) | exact Nat.lt_of_le_of_lt (by assumption) (by decide) | omega)) (by (first | assumption | exact Nat.le_trans (by assumption) (by decide) | exact Nat.lt_of_le_of_lt (by assumption) (by decide) | omega))); (case ki3u225 => exact not_in3 (by (first | assumption | exact Nat.le_trans (by assumption) (by decide) | exact Nat.lt_of_le_of_lt (by assumption) (by decide) | omega)) (by (first | assumption | exact Nat.le_trans (by assumption) (by decide) | exact Nat.lt_of_le_of_lt (by assumption) (by decide) | omega)) (by (first | assumption | exact Nat.le_trans (by assumption) (by decide) | exact Nat.lt_of_le_of_lt (by assumption) (by decide) | omega))))))); (case q1u225 => assumption); (case q2u225 => (first | assumption | exact Nat.le_trans (by assumption) (by decide) | exact Nat.lt_of_le_of_lt (by assumption) (by decide) | omega)); (case q3u225 => assumption); skip); intro zy9 zh9 ztk9 zF9 zN9 zst9; (try dsimp only); (try k_sweep)) | (k_here; (with_reducible show wpAny _ _ (call (Value.ref 200) _ _) _ _ _); (try dsimp only); k_dflt (refine' CallOk.useU0 ((show PopSpecQ _ _ _ by assumption) _ _ _ _ _ ?q1u226 ?q2u226 ?q3u226) ?k1u226 ?k2u226 ?k3u226 ?k4u226 ?k5u226 ?kKu226 ?kdu226 ?kuu226 ?kpu226 ?h1u226 ?hUu226 ?_; (case k1u226 => k_asm); (case k2u226 => k_asm); (case k3u226 => k_asm); (case k4u226 => k_asm); (case k5u226 => k_asm); (case kKu226 => first | exact rfl | assumption); (case kdu226 => (first | exact room2 (by assumption) rfl | exact room1 (by assumption) rfl | exact room0 (by assumption) | exact blt rfl | ktr_room)); (case kuu226 => (first | exact room2 (by assumption) rfl | exact room1 (by assumption) rfl | exact room0 (by assumption) | exact blt rfl | ktr_units)); (case hUu226 => k_updF); (case h1u226 => exact fun _ h => nomatch h); (case kpu226 => (refine' items_of ?kau226 ?kbu226 ?kcu226; (case kau226 => k_asm); (case kcu226 => assumption); (case kbu226 => exact fun p hp => by (repeat (first | exact hp | refine List.Mem.tail _ ?_))))); (case q3u226 => assumption); (case q1u226 => (first | assumption | exact Nat.le_trans (by assumption) (by decide) | exact Nat.lt_of_le_of_lt (by assumption) (by decide) | omega)); (case q2u226 => (first | assumption | exact Nat.le_trans (by assumption) (by decide) | exact Nat.lt_of_le_of_lt (by assumption) (by decide) | omega)); skip); intro zh9 ztk9 zF9 zN9 zst9; (try dsimp only); (try k_sweep)) | ((with_reducible show wpAny _ _ (exec (Stmt.For (PySem.Expr.Name _ _) (PySem.Expr.Call _ _ _ _) _ _ _) _) _ _ _); (k_here; (with_unfolding_all refine' for_stop ?_ ?hsu227; (case hsu227 => exact fun _ => rfl); k_whole))) | ((with_reducible show wpAny _ _ (eval (PySem.Expr.Name _ _) _) _ _ _); (k_here; k_dflt (refine' PyProof.Rows.ld ?k1u228 ?k2u228 ?_; (case k1u228 => k_asm); (case k2u228 => first | with_reducible assumption | assumption); k_whole))) | walk1) | ((simp only [List.cons_append, List.nil_append]); walk1) | (leave1; try dsimp only) | fail "no step"))
          refine Stopped.mk ?_
          revert zy9 zh9 ztk9 zF9 zN9 zst9; intro y hh htk F1 N1 st9
          obtain ⟨⟨yl, yts⟩, hy1, hy2⟩ := y
          dsimp only at F1 N1 hy1 hy2
          simp only [List.cons_append, List.nil_append] at N1
          dsimp only
          replace N1 := News.sub N1 sub_drop2
          have hb1 : @Ne Nat _ yl := hy2 _ (.head _)
          have hb2 : @Ne Nat _ yl := hy2 _ (.tail _ (.head _))
          have hb3 : @Ne Nat _ yl := hy2 _ (.tail _ (.tail _ (.head _)))
          clear hy2
          have hyK : yts.map (·.1) = rowsOf ⟨hk.map (·.2), ck.map (·.2), load⟩ place := hy1.trans getAllF_K
          have hyl : yts.length ≤ hk.length := by
            have h1 := congrArg List.length hyK
            rw [List.length_map] at h1
            have h2 : (rowsOf ⟨hk.map (·.2), ck.map (·.2), load⟩ place).length ≤ (hk.map (·.2)).length := rows_len
            rw [← h1, List.length_map] at h2
            exact h2
          refine for_list (L := L') (its := valsS yts) rfl rfl F1 N1 (fun i m led => RowInv w P LD _ _ _ _ _ _ _ _ yl t _ _ _ ld room place yts rest hk ck _ _ _ _ tl i m led) (fun _ _ => False) ?hJv23 ⟨[], _, tl, _, _, rfl, ⟨⟨m1, m2, m3, m4, m5, m6, rfl⟩, rfl, rfl⟩, ⟨fun _ h => h, q4, (fun _ h => nomatch h), (fun i _ h => absurd h (Nat.not_lt_zero _)), List.Perm.nil, rfl⟩⟩ ?turn3v23 ?rest3v23 (fun _ _ h => h.elim) (fun I i s' v Q' hit q => go_name I i s' v Q' hit q)
          case hJv23 =>
            rintro i m led ⟨hs, kh, tl', load, tl0, rfl, nm, st⟩
            exact ⟨.inr ⟨_, .head _, rfl, _, rfl⟩, List.forall_mem_cons.mpr ⟨list_not_liter, List.forall_mem_cons.mpr ⟨list_not_liter, cut_liter st.tups⟩⟩⟩
          case turn3v23 =>
            clear F1 N1
            intro I i v m led oI h tk hi hv HH10 F1 N1 off
            (try ((with_reducible show wpAny _ _ _ _ _ _); k_fold))
            obtain ⟨hs, kh, tl', load, tl0, rfl, ⟨⟨m1, m2, m3, m4, m5, m6, m7⟩, m8, m9⟩, ⟨s1, s2, s3, s4, s5, s6⟩⟩ := HH10
            obtain ⟨y, hy, rfl⟩ := val_at' hv
            have hyr : y.1 ∈ getAllK (Txt.upper place) (hk.map (·.2)) := by
              rw [show getAllK (Txt.upper place) (hk.map (·.2)) = yts.map (·.1) from hyK.symm]
              exact List.mem_map_of_mem (List.mem_of_getElem? hy)
            obtain ⟨lo, po, hl0, hl8, hpo, hye⟩ := rows_ok q12 hyr
            have hylen : y.1.length ≤ 30 := by rw [hye]; exact (row_facts hl0 hl8 hpo).2.2.2
            have hrc : Txt.count y.1 barS = lo := by rw [hye]; exact (row_facts hl0 hl8 hpo).1
            have hsl : hs.length ≤ 8 := by
              have h1 := perm_len s5
              rw [List.length_map, List.length_take, List.length_map] at h1
              omega
            have f1 := off _ (.head _)
            have f2 := off _ (.tail _ (.head _))
            have f3 := off _ (.tail _ (.tail _ (.head _)))
            have f4 := off _ (.tail _ (.tail _ (.tail _ (.head _))))
            have f5 := off _ (.tail _ (.tail _ (.tail _ (.tail _ (.head _)))))
            have f6 := off _ (.tail _ (.tail _ (.tail _ (.tail _ (.tail _ (.head _))))))
            have f7 := off _ (.tail _ (.tail _ (.tail _ (.tail _ (.tail _ (.tail _ (.head _)))))))
            have f8 := off _ (.tail _ (.tail _ (.tail _ (.tail _ (.tail _ (.tail _ (.tail _ (.head _))))))))
            have f9 := off _ (.tail _ (.tail _ (.tail _ (.tail _ (.tail _ (.tail _ (.tail _ (.tail _ (.head _)))))))))
            dsimp only at f1 f2 f3 f4 f5 f6 f7 f8 f9
            have e16 := News.off (tail := tl') N1 (.tail _ (.tail _ (.head _))) (fun p hp => .tail _ (.tail _ (.tail _ (cut_tl p hp)))) (tups_not s2)
            replace e16 : Off _ tl' := e16
            (try dsimp only)
            (repeat' (first | (k_unfold; (try dsimp only)) | (k_end; wrow_close) | ((with_reducible show wpAny _ _ (execs _ _) _ _ _); k_fold) | (k_here; (with_reducible show wpAny _ _ (call (Value.ref 193) _ _) _ _ _); (try dsimp only); k_dflt (refine' CallOk.useU0 ((show PushSpecQ _ _ _ by assumption) _ _ _ _ _ ?q1u229) ?k1u229 ?k2u229 ?k3u229 ?k4u229 ?k5u229 ?kKu229 ?kdu229 ?kuu229 ?kpu229 ?h1u229 ?hUu229 ?_; (case k1u229 => k_asm); (case k2u229 => k_asm); (case k3u229 => k_asm); (case k4u229 => k_asm); (case k5u229 => k_asm); (case kKu229 => first | exact rfl | assumption); (case kdu229 => (first | exact room2 (by assumption) rfl | exact room1 (by assumption) rfl | exact room0 (by assumption) | exact blt rfl | ktr_room)); (case kuu229 => (first | exact room2 (by assumption) rfl | exact room1 (by assumption) rfl | exact room0 (by assumption) | exact blt rfl | ktr_units)); (case hUu229 => k_updF); (case h1u229 => exact fun _ h => nomatch h); (case kpu229 => exact ⟨by (refine' items_of ?kau229 ?kbu229 ?kcu229; (case kau229 => k_asm); (case kcu229 => assumption); (case kbu229 => exact fun p hp => by (repeat (first | exact hp | refine List.Mem.tail _ ?_)))), by (refine' pair_of ?kdu229 ?keu229; (case kdu229 => k_asm); (case keu229 => k_mem))⟩); (case q1u229 => (first | assumption | exact Nat.le_trans (by assumption) (by decide) | exact Nat.lt_of_le_of_lt (by assumption) (by decide) | omega)); skip); intro zh9 ztk9 zF9 zN9 zst9; (try dsimp only); (try k_sweep)) | ((with_reducible show wpAny _ _ (eval (PySem.Expr.Name _ _) _) _ _ _); (k_here; k_dflt (refine' PyProof.Rows.ld ?k1u230 ?k2u230 ?_; (case k1u230 => k_asm); (case k2u230 => first | with_reducible assumption | assumption); k_whole))) | walk1 | (dsimp only; first | (k_here; (with_reducible show wpAny _ _ (call (Value.ref 193) _ _) _ _ _); (try dsimp only); k_dflt (refine' CallOk.useU0 ((show PushSpecQ _ _ _ by assumption) _ _ _ _ _ ?q1u231) ?k1u231 ?k2u231 ?k3u231 ?k4u231 ?k5u231 ?kKu231 ?kdu231 ?kuu231 ?kpu231 ?h1u231 ?hUu231 ?_; (case k1u231 => k_asm); (case k2u231 => k_asm); (case k3u231 => k_asm); (case k4u231 => k_asm); (case k5u231 => k_asm); (case kKu231 => first | exact rfl | assumption); (case kdu231 => (first | exact room2 (by assumption) rfl | exact room1 (by assumption) rfl | exact room0 (by assumption) | exact blt rfl | ktr_room)); (case kuu231 => (first | exact room2 (by assumption) rfl | exact room1 (by assumption) rfl | exact room0 (by assumption) | exact blt rfl | ktr_units)); (case hUu231 => k_updF); (case h1u231 => exact fun _ h => nomatch h); (case kpu231 => exact ⟨by (refine' items_of ?kau231 ?kbu231 ?kcu231; (case kau231 => k_asm); (case kcu231 => assumption); (case kbu231 => exact fun p hp => by (repeat (first | exact hp | refine List.Mem.tail _ ?_)))), by (refine' pair_of ?kdu231 ?keu231; (case kdu231 => k_asm); (case keu231 => k_mem))⟩); (case q1u231 => (first | assumption | exact Nat.le_trans (by assumption) (by decide) | exact Nat.lt_of_le_of_lt (by assumption) (by decide) | omega)); skip); intro zh9 ztk9 zF9 zN9 zst9; (try dsimp only); (try k_sweep)) | ((with_reducible show wpAny _ _ (eval (PySem.Expr.Name _ _) _) _ _ _); (k_here; k_dflt (refine' PyProof.Rows.ld ?k1u232 ?k2u232 ?_; (case k1u232 => k_asm); (case k2u232 => first | with_reducible assumption | assumption); k_whole))) | walk1) | ((simp only [List.cons_append, List.nil_append]); walk1) | (leave1; try dsimp only) | fail "no step"))
            have F2 := (by assumption : Fr g' L' _ _)
            have N2 := (by assumption : News g' L' _ ((_, tup2 [.int _ _, .str _ _]) :: (I, oI) :: _))
            obtain ⟨z1, z2, z3⟩ := push_perm (x := (_, (-(Txt.count y.1 barS), Txt.lstripChars y.1 barS))) s4 s5
            refine Stopped.mk ⟨_, _, _, _, rfl, F2, News.sub N2 sub_in1, _, _, (_, tup2 [.int _ _, .str _ _]) :: tl', _, _, rfl, ⟨⟨m1, m2, m3, m4, m5, m6, rfl⟩, m8, m9⟩, ⟨fun p hp => .tail _ (s1 p hp), s2.cons, fun q hq => ?_, z1, ?_, ?_⟩⟩
            · rcases z3 q hq with rfl | hq
              · exact ⟨_, _, .head _⟩
              · obtain ⟨t, u, e⟩ := s3 q hq
                exact ⟨t, u, .tail _ e⟩
            · rw [take_at (q := y.1) (by rw [List.getElem?_map, hy]; rfl), List.map_append]
              exact z2
            · rw [loadOf_at (x := y.1) (by rw [List.getElem?_map, hy]; rfl), ← s6]
          case rest3v23 =>
            clear F1 N1
            rintro m led h tk ⟨hs, kh, tl', load2, tl0, rfl, ⟨⟨m1, m2, m3, m4, m5, m6, m7⟩, m8, m9⟩, ⟨s1, s2, s3, s4, s5, s6⟩⟩ F1 N1
            (try dsimp only)
            (repeat' (first | (k_unfold; (try dsimp only)) | (k_end; wrow_close) | ((with_reducible show wpAny _ _ (execs _ _) _ _ _); k_fold) | ((with_reducible show wpAny _ _ (exec (Stmt.While _ _ _ _) _) _ _ _); (refine stop_here ?_)) | walk1 | (dsimp only; first | ((with_reducible show wpAny _ _ (exec (Stmt.While _ _ _ _) _) _ _ _); (refine stop_here ?_)) | walk1) | ((simp only [List.cons_append, List.nil_append]); walk1) | (leave1; try dsimp only) | fail "no step"))
            refine Stopped.mk ?_
            have F2 := (by assumption : Fr g' L' _ _)
            have N2 := (by assumption : News g' L' _ ((yl, _) :: _))
            have hfull : (yts.map (·.1)).take (valsS yts).length = rowsOf ⟨hk.map (·.2), ck.map (·.2), load⟩ place := by
              rw [← hyK, List.length_map, ← List.length_map (f := fun q : Str × Tok => q.1), List.take_length]
            rw [hfull] at s5 s6
            have hkk : KeysOk ((rowsOf ⟨hk.map (·.2), ck.map (·.2), load⟩ place).map rowKey) := keys_ok q12
            have hsl : hs.length ≤ hk.length := by
              have h1 := perm_len s5
              rw [List.length_map] at h1
              have h2 : (rowsOf ⟨hk.map (·.2), ck.map (·.2), load⟩ place).length ≤ (hk.map (·.2)).length := rows_len
              rw [List.length_map] at h2
              omega
            refine hung_while (s := s) (ck0 := ck) (tl := tl) (ld := ld) (room := room) (place := place) (out := cutOf ld room ⟨hk.map (·.2), ck.map (·.2), load⟩ place) (nc := 8 * hk.length + 8) (r := sortP ((rowsOf ⟨hk.map (·.2), ck.map (·.2), load⟩ place).map rowKey)) F2 (News.sub N2 (fun p hp => .tail _ hp)) ⟨_, _, rfl⟩ ⟨⟨m1, m2, m3, m4, m5, m6, m7⟩, m8, m9⟩ ⟨s1, s2, s3, q3.mono s1 (fun _ h => h), s4, s5.trans (sortP_perm _).symm, sortP_sorted _, fun q hq => hkk q ((sortP_perm _).mem_iff.mp hq), ?eqnv23, ?outv23, by omega, q13⟩ ?turn4v23 ?rest4v23
            case eqnv23 => rw [s6, loadOf_wsum, wsum_perm (sortP_perm _)]
            case outv23 => rw [s6]; rfl
            case turn4v23 =>
              clear F1 N1 F2 N2
              intro n s' HH2
              (try ((with_reducible show wpAny _ _ _ _ _ _); k_fold))
              obtain ⟨load3, hs, ck, kh, n2, tl', m, h, tk, tl0, r2, rfl, F1, N1, rfl, ⟨⟨m1, m2, m3, m4, m5, m6, m7⟩, m8, m9⟩, ⟨u1, u2, u3, u4, u5, u6, u7, u8, u9, u10, u11, u12⟩⟩ := HH2
              have hkl : hk.length ≤ 7 := by omega
              have N3 := News.sub N1 (fun p hp => .tail _ hp)
              obtain ⟨-, -, -, -, -, -, -, -, -, -, -, -, v1, v2, v3⟩ := cut_ne N3 u2
              have v4 := News.off (tail := tl') N1 (.head _) (fun p hp => .tail _ (cut_tl p hp)) (tups_not u2)
              replace v4 : Off _ tl' := v4
              by_cases hgt : room < load3
              · cases r2 with
                | nil =>
                  have hw : wsum [] = 0 := rfl
                  have := (hs3 place hpl).2
                  omega
                | cons p1 r2 =>
                  obtain ⟨less0, child⟩ := p1
                  have z1 := (pop_perm u5 u6 u7).1
                  have z2 := (pop_perm u5 u6 u7).2.1
                  have z3 := (pop_perm u5 u6 u7).2.2.1
                  have z4 := (pop_perm u5 u6 u7).2.2.2.1
                  have z5 := (pop_perm u5 u6 u7).2.2.2.2
                  obtain ⟨⟨qb, q''⟩, rest2, hpop2⟩ : ∃ q rest, popI hs = (q, rest) := ⟨_, _, rfl⟩
                  rw [hpop2] at z1 z2 z3 z4 z5
                  dsimp only at z1 z2 z3 z4 z5
                  subst z2
                  have hlen2 : 0 < hs.length := List.length_pos_of_mem z1
                  have hsl2 : hs.length = r2.length + 1 := perm_len u6
                  have hrl2 : rest2.length = r2.length := perm_len z4
                  obtain ⟨tc, td, hqm2⟩ := u3 _ z1
                  dsimp only at hqm2
                  have hc7 : child ∈ pl 7 := (u8 _ (.head _)).2.2
                  have pg1 := (pl_facts hc7).1
                  have pg2 := (pl_facts hc7).2.1
                  have pg3 := (pl_facts hc7).2.2.1
                  have pg4 := (pl_facts hc7).2.2.2.1
                  have pg5 := (pl_facts hc7).2.2.2.2.1
                  have pg6 := (pl_facts hc7).2.2.2.2.2.1
                  have pg7 := (pl_facts hc7).2.2.2.2.2.2.1
                  have pg8 := (pl_facts hc7).2.2.2.2.2.2.2
                  have hlu2 : clean (Txt.lower (Txt.upper child)) = true := by rw [pg4]; exact pg1
                  have hlh2 : hdLens ck := cutLens_of (by omega) u12
                  clear N3
                  (try dsimp only)
                  (repeat' (first | (k_unfold; (try dsimp only)) | (k_end; wrow_close) | ((with_reducible show wpAny _ _ (execs _ _) _ _ _); k_fold) | (k_here; (with_reducible show wpAny _ _ (call (Value.ref 97) _ _) _ _ _); (try dsimp only); k_dflt (refine' CallOk.useU ((show SetSpecQ _ _ _ by assumption) _ _ _ _ _ _ _ _ _ _ ?q1u235 ?q2u235 ?q3u235 ?q4u235 ?q5u235 ?q6u235) ?k1u235 ?k2u235 ?k3u235 ?k4u235 ?k5u235 ?kKu235 ?kdu235 ?kuu235 ?kpu235 ?h1u235 ?hUu235 ?_; (case k1u235 => k_asm); (case k2u235 => k_asm); (case k3u235 => k_asm); (case k4u235 => k_asm); (case k5u235 => k_asm); (case kKu235 => first | exact rfl | assumption); (case kdu235 => (first | exact room2 (by assumption) rfl | exact room1 (by assumption) rfl | exact room0 (by assumption) | exact blt rfl | ktr_room)); (case kuu235 => (first | exact room2 (by assumption) rfl | exact room1 (by assumption) rfl | exact room0 (by assumption) | exact blt rfl | ktr_units)); (case h1u235 => (refine List.forall_mem_cons.mpr ⟨by k_mem, List.forall_mem_cons.mpr ⟨by k_mem, List.forall_mem_nil _⟩⟩)); (case hUu235 => k_updF); (case kpu235 => (refine' hat_of ?kau235 ?kbu235 ?kcu235; (case kau235 => k_asm); (case kcu235 => assumption); (case kbu235 => exact fun p hp => by (repeat (first | exact hp | refine List.Mem.tail _ ?_))))); (case q1u235 => assumption); (case q2u235 => (first | assumption | exact Nat.le_trans (by assumption) (by decide) | exact Nat.lt_of_le_of_lt (by assumption) (by decide) | omega)); (case q3u235 => (first | assumption | exact Nat.le_trans (by assumption) (by decide) | exact Nat.lt_of_le_of_lt (by assumption) (by decide) | omega)); (case q4u235 => assumption); (case q5u235 => assumption); (case q6u235 => assumption); skip); intro zy9 zh9 ztk9 zF9 zN9 zst9; (try dsimp only); (try k_sweep)) | (k_here; (with_reducible show wpAny _ _ (call (Value.ref 200) _ _) _ _ _); (try dsimp only); k_dflt (refine' CallOk.useU0 ((show PopSpecQ _ _ _ by assumption) _ _ _ _ _ ?q1u236 ?q2u236 ?q3u236) ?k1u236 ?k2u236 ?k3u236 ?k4u236 ?k5u236 ?kKu236 ?kdu236 ?kuu236 ?kpu236 ?h1u236 ?hUu236 ?_; (case k1u236 => k_asm); (case k2u236 => k_asm); (case k3u236 => k_asm); (case k4u236 => k_asm); (case k5u236 => k_asm); (case kKu236 => first | exact rfl | assumption); (case kdu236 => (first | exact room2 (by assumption) rfl | exact room1 (by assumption) rfl | exact room0 (by assumption) | exact blt rfl | ktr_room)); (case kuu236 => (first | exact room2 (by assumption) rfl | exact room1 (by assumption) rfl | exact room0 (by assumption) | exact blt rfl | ktr_units)); (case hUu236 => k_updF); (case h1u236 => exact fun _ h => nomatch h); (case kpu236 => (refine' items_of ?kau236 ?kbu236 ?kcu236; (case kau236 => k_asm); (case kcu236 => assumption); (case kbu236 => exact fun p hp => by (repeat (first | exact hp | refine List.Mem.tail _ ?_))))); (case q3u236 => assumption); (case q1u236 => (first | assumption | exact Nat.le_trans (by assumption) (by decide) | exact Nat.lt_of_le_of_lt (by assumption) (by decide) | omega)); (case q2u236 => (first | assumption | exact Nat.le_trans (by assumption) (by decide) | exact Nat.lt_of_le_of_lt (by assumption) (by decide) | omega)); skip); intro zh9 ztk9 zF9 zN9 zst9; (try dsimp only); (try k_sweep)) | ((with_reducible show wpAny _ _ (eval (PySem.Expr.Name _ _) _) _ _ _); (k_here; k_dflt (refine' PyProof.Rows.ld ?k1u237 ?k2u237 ?_; (case k1u237 => k_asm); (case k2u237 => first | with_reducible assumption | assumption); k_whole))) | (k_here; (with_reducible show wpAny _ _ (setItem (Value.ref _) (Value.str _ _) (Value.str _ _)) _ _ _); k_dflt (refine' ksp_setItem ?Fu238 ?Xu238 ?Iu238 ?hQu238 ?hSu238 ?hFu238 ?_; (case Fu238 => k_asm); (case Xu238 => k_asm); (case Iu238 => k_inst); (case hSu238 => k_is); (case hFu238 => k_is); (case hQu238 => k_is); k_whole)) | walk1 | (dsimp only; first | (k_here; (with_reducible show wpAny _ _ (call (Value.ref 97) _ _) _ _ _); (try dsimp only); k_dflt (refine' CallOk.useU ((show SetSpecQ _ _ _ by assumption) _ _ _ _ _ _ _ _ _ _ ?q1u239 ?q2u239 ?q3u239 ?q4u239 ?q5u239 ?q6u239) ?k1u239 ?k2u239 ?k3u239 ?k4u239 ?k5u239 ?kKu239 ?kdu239 ?kuu239 ?kpu239 ?h1u239 ?hUu239 ?_; (case k1u239 => k_asm); (case k2u239 => k_asm); (case k3u239 => k_asm); (case k4u239 => k_asm); (case k5u239 => k_asm); (case kKu239 => first | exact rfl | assumption); (case kdu239 => (first | exact room2 (by assumption) rfl | exact room1 (by assumption) rfl | exact room0 (by assumption) | exact blt rfl | ktr_room)); (case kuu239 => (first | exact room2 (by assumption) rfl | exact room1 (by assumption) rfl | exact room0 (by assumption) | exact blt rfl | ktr_units)); (case h1u239 => (refine List.forall_mem_cons.mpr ⟨by k_mem, List.forall_mem_cons.mpr ⟨by k_mem, List.forall_mem_nil _⟩⟩)); (case hUu239 => k_updF); (case kpu239 => (refine' hat_of ?kau239 ?kbu239 ?kcu239; (case kau239 => k_asm); (case kcu239 => assumption); (case kbu239 => exact fun p hp => by (repeat (first | exact hp | refine List.Mem.tail _ ?_))))); (case q1u239 => assumption); (case q2u239 => (first | assumption | exact Nat.le_trans (by assumption) (by decide) | exact Nat.lt_of_le_of_lt (by assumption) (by decide) | omega)); (case q3u239 => (first | assumption | exact Nat.le_trans (by assumption) (by decide) | exact Nat.lt_of_le_of_lt (by assumption) (by decide) | omega)); (case q4u239 => assumption); (case q5u239 => assumption); (case q6u239 => assumption); skip); intro zy9 zh9 ztk9 zF9 zN9 zst9; (try dsimp only); (try k_sweep)) | (k_here; (with_reducible show wpAny _ _ (call (Value.ref 200) _ _) _ _ _); (try dsimp only); k_dflt (refine' CallOk.useU0 ((show PopSpecQ _ _ _ by assumption) _ _ _ _ _ ?q1u240 ?q2u240 ?q3u240) ?k1u240 ?k2u240 ?k3u240 ?k4u240 ?k5u240 ?kKu240 ?kdu240 ?kuu240 ?kpu240 ?h1u240 ?hUu240 ?_; (case k1u240 => k_asm); (case k2u240 => k_asm); (case k3u240 => k_asm); (case k4u240 => k_asm); (case k5u240 => k_asm); (case kKu240 => first | exact rfl | assumption); (case kdu240 => (first | exact room2 (by assumption) rfl | exact room1 (by assumption) rfl | exact room0 (by assumption) | exact blt rfl | ktr_room)); (case kuu240 => (first | exact room2 (by assumption) rfl | exact room1 (by assumption) rfl | exact room0 (by assumption) | exact blt rfl | ktr_units)); (case hUu240 => k_updF); (case h1u240 => exact fun _ h => nomatch h); (case kpu240 => (refine' items_of ?kau240 ?kbu240 ?kcu240; (case kau240 => k_asm); (case kcu240 => assumption); (case kbu240 => exact fun p hp => by (repeat (first | exact hp | refine List.Mem.tail _ ?_))))); (case q3u240 => assumption); (case q1u240 => (first | assumption | exact Nat.le_trans (by assumption) (by decide) | exact Nat.lt_of_le_of_lt (by assumption) (by decide) | omega)); (case q2u240 => (first | assumption | exact Nat.le_trans (by assumption) (by decide) | exact Nat.lt_of_le_of_lt (by assumption) (by decide) | omega)); skip); intro zh9 ztk9 zF9 zN9 zst9; (try dsimp only); (try k_sweep)) | ((with_reducible show wpAny _ _ (eval (PySem.Expr.Name _ _) _) _ _ _); (k_here; k_dflt (refine' PyProof.Rows.ld ?k1u241 ?k2u241 ?_; (case k1u241 => k_asm); (case k2u241 => first | with_reducible assumption | assumption); k_whole))) | (k_here; (with_reducible show wpAny _ _ (setItem (Value.ref _) (Value.str _ _) (Value.str _ _)) _ _ _); k_dflt (refine' ksp_setItem ?Fu242 ?Xu242 ?Iu242 ?hQu242 ?hSu242 ?hFu242 ?_; (case Fu242 => k_asm); (case Xu242 => k_asm); (case Iu242 => k_inst); (case hSu242 => k_is); (case hFu242 => k_is); (case hQu242 => k_is); k_whole)) | walk1) | ((simp only [List.cons_append, List.nil_append]); walk1) | (leave1; try dsimp only) | fail "no step"))
                  have F2 := (by assumption : Fr g' L' _ _)
                  have N2 := (by assumption : News g' L' _ ([(_, tup2 [.str _ _, .str _ _])] ++ _))
                  have hkq : KeysOk r2 := fun x hx => u8 x (.tail _ hx)
                  refine Stopped.mk ⟨rest2.length, by omega, load3 + less0, rest2, delF (Txt.upper child) ck ++ [(_, (Txt.upper child, place))], _, _, (_, tup2 [.str _ _, .str _ _]) :: tl', _, _, _, _, r2, rfl, F2, News.sub N2 sub_in2, rfl, ⟨⟨m1, m2, m3, m4, m5, m6, rfl⟩, m8, m9⟩, ⟨fun p hp => .tail _ (u1 p hp), u2.cons, u3.mono (fun _ h => .tail _ h) z5, u4.del.snoc, z3, z4, (List.pairwise_cons.mp u7).2, hkq, ?_, ?_, ?_, ?_⟩⟩
                  · rw [wsum_cons] at u9; dsimp only at u9; omega
                  · rw [← u10, delF_K, cutW_pos hgt]
                  · have hdl := delF_len (name := Txt.upper child) (its := ck)
                    rw [List.length_append, List.length_singleton]
                    omega
                  · rw [delF_K]; exact cutsOk_set u12 hc7 hp7
              · clear N3
                (try dsimp only)
                (repeat' (first | (k_unfold; (try dsimp only)) | (k_end; wrow_close) | ((with_reducible show wpAny _ _ (execs _ _) _ _ _); k_fold) | ((with_reducible show wpAny _ _ (eval (PySem.Expr.Name _ _) _) _ _ _); (k_here; k_dflt (refine' PyProof.Rows.ld ?k1u243 ?k2u243 ?_; (case k1u243 => k_asm); (case k2u243 => first | with_reducible assumption | assumption); k_whole))) | walk1 | (dsimp only; first | ((with_reducible show wpAny _ _ (eval (PySem.Expr.Name _ _) _) _ _ _); (k_here; k_dflt (refine' PyProof.Rows.ld ?k1u244 ?k2u244 ?_; (case k1u244 => k_asm); (case k2u244 => first | with_reducible assumption | assumption); k_whole))) | walk1) | ((simp only [List.cons_append, List.nil_append]); walk1) | (leave1; try dsimp only) | fail "no step"))
                have F2 := (by assumption : Fr g' L' _ _)
                have N2 := (by assumption : News g' L' _ ((_, listOf (valsI hs).toArray _) :: _))
                exact Stopped.mk ⟨load3, _, hgt, hs, ck, kh, n2, tl', _, _, _, _, r2, rfl, F2, N2, rfl, ⟨⟨m1, m2, m3, m4, m5, m6, m7⟩, m8, m9⟩, ⟨u1, u2, u3, u4, u5, u6, u7, u8, u9, u10, u11, u12⟩⟩
            case rest4v23 =>
              clear F1 N1 F2 N2
              rintro st load3 k hng ⟨hs, ck2, kh, n2, tl', m, h, tk, tl0, r2, rfl, F1, N1, rfl, ⟨⟨m1, m2, m3, m4, m5, m6, m7⟩, m8, m9⟩, ⟨u1, u2, u3, u4, u5, u6, u7, u8, u9, u10, u11, u12⟩⟩
              have hkl : hk.length ≤ 7 := by omega
              have N3 := News.sub N1 (fun p hp => .tail _ hp)
              obtain ⟨-, -, -, -, -, -, -, -, -, -, -, -, v1, v2, v3⟩ := cut_ne N3 u2
              have v4 := News.off (tail := tl') N1 (.head _) (fun p hp => .tail _ (cut_tl p hp)) (tups_not u2)
              replace v4 : Off _ tl' := v4
              clear N3
              rw [cutW_neg hng] at u10
              have hl0 : 0 ≤ load3 := by
                have h1 := wsum_nonpos u8
                have h2 := (hs3 place hpl).1
                omega
              have hl8 : load3 ≤ 8 := by omega
              have hd7 := dir_pl hp7
              have pd1 := (pl_facts hd7).1
              have pd6 := (pl_facts hd7).2.2.2.2.2.1
              have pr3 := (row_facts hl0 hl8 hp7).2.2.1
              have pr4 := (row_facts hl0 hl8 hp7).2.2.2
              unfold rowS at pr3 pr4
              have hmul : Txt.mul barS load3 = Txt.mul (Str.ofString "|") load3 := rfl
              have hin1 : HIn tl' hk := q2.mono u1 (fun _ h => h)
              (try dsimp only)
              (repeat' (first | (k_unfold; (try dsimp only)) | (k_end; wrow_close) | ((with_reducible show wpAny _ _ (execs _ _) _ _ _); k_fold) | (k_here; (with_reducible show wpAny _ _ (call (Value.ref 322) _ _) _ _ _); (try dsimp only); k_dflt (refine' CallOk.use1 ((show DirSpec _ _ _ by assumption) _ _ ?q1u245) ?k1u245 ?k2u245 ?k3u245 ?k4u245 ?k5u245 ?kKu245 ?kdu245 ?kuu245 ?kpu245 ?_; (case k1u245 => k_asm); (case k2u245 => k_asm); (case k3u245 => k_asm); (case k4u245 => k_asm); (case k5u245 => k_asm); (case kKu245 => first | exact rfl | assumption); (case kdu245 => (first | exact room2 (by assumption) rfl | exact room1 (by assumption) rfl | exact room0 (by assumption) | exact blt rfl | ktr_room)); (case kuu245 => (first | exact room2 (by assumption) rfl | exact room1 (by assumption) rfl | exact room0 (by assumption) | exact blt rfl | ktr_units)); (case kpu245 => exact trivial); (case q1u245 => (first | assumption | exact Nat.le_trans (by assumption) (by decide) | exact Nat.lt_of_le_of_lt (by assumption) (by decide) | omega)); skip); intro zt9 zh9 ztk9 zF9 zN9 zst9; (try dsimp only); (try k_sweep)) | (k_here; (with_reducible show wpAny _ _ (call (Value.ref 179) _ _) _ _ _); (try dsimp only); k_dflt (refine' CallOk.useU ((show AddSpecQ _ _ _ by assumption) _ _ _ _ _ _ _ _ _ _ ?q1u246 ?q2u246 ?q3u246 ?q4u246 ?q5u246) ?k1u246 ?k2u246 ?k3u246 ?k4u246 ?k5u246 ?kKu246 ?kdu246 ?kuu246 ?kpu246 ?h1u246 ?hUu246 ?_; (case k1u246 => k_asm); (case k2u246 => k_asm); (case k3u246 => k_asm); (case k4u246 => k_asm); (case k5u246 => k_asm); (case kKu246 => first | exact rfl | assumption); (case kdu246 => (first | exact room2 (by assumption) rfl | exact room1 (by assumption) rfl | exact room0 (by assumption) | exact blt rfl | ktr_room)); (case kuu246 => (first | exact room2 (by assumption) rfl | exact room1 (by assumption) rfl | exact room0 (by assumption) | exact blt rfl | ktr_units)); (case h1u246 => (refine List.forall_mem_cons.mpr ⟨by k_mem, List.forall_mem_cons.mpr ⟨by k_mem, List.forall_mem_nil _⟩⟩)); (case hUu246 => k_updF); (case kpu246 => (refine' hat_of ?kau246 ?kbu246 ?kcu246; (case kau246 => k_asm); (case kcu246 => assumption); (case kbu246 => exact fun p hp => by (repeat (first | exact hp | refine List.Mem.tail _ ?_))))); (case q1u246 => assumption); (case q2u246 => (first | assumption | exact Nat.le_trans (by assumption) (by decide) | exact Nat.lt_of_le_of_lt (by assumption) (by decide) | omega)); (case q3u246 => (first | assumption | exact Nat.le_trans (by assumption) (by decide) | exact Nat.lt_of_le_of_lt (by assumption) (by decide) | omega)); (case q4u246 => assumption); (case q5u246 => assumption); skip); intro zy9 zh9 ztk9 zF9 zN9 zst9; (try dsimp only); (try k_sweep)) | ((with_reducible show wpAny _ _ (eval (PySem.Expr.Name _ _) _) _ _ _); (k_here; k_dflt (refine' PyProof.Rows.ld ?k1u247 ?k2u247 ?_; (case k1u247 => k_asm); (case k2u247 => first | with_reducible assumption | assumption); k_whole))) | walk1 | (dsimp only; first | (k_here; (with_reducible show wpAny _ _ (call (Value.ref 322) _ _) _ _ _); (try dsimp only); k_dflt (refine' CallOk.use1 ((show DirSpec _ _ _ by assumption) _ _ ?q1u248) ?k1u248 ?k2u248 ?k3u248 ?k4u248 ?k5u248 ?kKu248 ?kdu248 ?kuu248 ?kpu248 ?_; (case k1u248 => k_asm); (case k2u248 => k_asm); (case k3u248 => k_asm); (case k4u248 => k_asm); (case k5u248 => k_asm); (case kKu248 => first | exact rfl | assumption); (case kdu248 => (first | exact room2 (by assumption) rfl | exact room1 (by assumption) rfl | exact room0 (by assumption) | exact blt rfl | ktr_room)); (case kuu248 => (first | exact room2 (by assumption) rfl | exact room1 (by assumption) rfl | exact room0 (by assumption) | exact blt rfl | ktr_units)); (case kpu248 => exact trivial); (case q1u248 => (first | assumption | exact Nat.le_trans (by assumption) (by decide) | exact Nat.lt_of_le_of_lt (by assumption) (by decide) | omega)); skip); intro zt9 zh9 ztk9 zF9 zN9 zst9; (try dsimp only); (try k_sweep)) | (k_here; (with_reducible show wpAny _ _ (call (Value.ref 179) _ _) _ _ _); (try dsimp only); k_dflt (refine' CallOk.useU ((show AddSpecQ _ _ _ by assumption) _ _ _ _ _ _ _ _ _ _ ?q1u249 ?q2u249 ?q3u249 ?q4u249 ?q5u249) ?k1u249 ?k2u249 ?k3u249 ?k4u249 ?k5u249 ?kKu249 ?kdu249 ?kuu249 ?kpu249 ?h1u249 ?hUu249 ?_; (case k1u249 => k_asm); (case k2u249 => k_asm); (case k3u249 => k_asm); (case k4u249 => k_asm); (case k5u249 => k_asm); (case kKu249 => first | exact rfl | assumption); (case kdu249 => (first | exact room2 (by assumption) rfl | exact room1 (by assumption) rfl | exact room0 (by assumption) | exact blt rfl | ktr_room)); (case kuu249 => (first | exact room2 (by assumption) rfl | exact room1 (by assumption) rfl | exact room0 (by assumption) | exact blt rfl | ktr_units)); (case h1u249 => (refine List.forall_mem_cons.mpr ⟨by k_mem, List.forall_mem_cons.mpr ⟨by k_mem, List.forall_mem_nil _⟩⟩)); (case hUu249 => k_updF); (case kpu249 => (refine' hat_of ?kau249 ?kbu249 ?kcu249; (case kau249 => k_asm); (case kcu249 => assumption); (case kbu249 => exact fun p hp => by (repeat (first | exact hp | refine List.Mem.tail _ ?_))))); (case q1u249 => assumption); (case q2u249 => (first | assumption | exact Nat.le_trans (by assumption) (by decide) | exact Nat.lt_of_le_of_lt (by assumption) (by decide) | omega)); (case q3u249 => (first | assumption | exact Nat.le_trans (by assumption) (by decide) | exact Nat.lt_of_le_of_lt (by assumption) (by decide) | omega)); (case q4u249 => assumption); (case q5u249 => assumption); skip); intro zy9 zh9 ztk9 zF9 zN9 zst9; (try dsimp only); (try k_sweep)) | ((with_reducible show wpAny _ _ (eval (PySem.Expr.Name _ _) _) _ _ _); (k_here; k_dflt (refine' PyProof.Rows.ld ?k1u250 ?k2u250 ?_; (case k1u250 => k_asm); (case k2u250 => first | with_reducible assumption | assumption); k_whole))) | walk1) | ((simp only [List.cons_append, List.nil_append]); walk1) | (leave1; try dsimp only) | fail "no step"))
              have F2 := (by assumption : Fr g' L' _ _)
              have N2 := (by assumption : News g' L' _ ([(_, tup2 [.str _ _, .str _ _])] ++ _))
              have hrl : rest.length = r.length := perm_len o4
              have hil2 : its.length = r.length + 1 := perm_len q6
              refine Stopped.mk ⟨rest.length, by omega, rest, hk ++ [(_, (dirS place, rowS load3 place))], ck2, _, _, _, (_, tup2 [.str _ _, .str _ _]) :: tl', _, _, _, load3, _, r, rfl, F2, News.sub N2 sub_in3, rfl, ⟨m1, m2, m3, m4, m5, m6, m7⟩, ⟨q1.mono (fun p hp => .tail _ (u1 p hp)) o5, hin1.snoc, u4.mono (fun _ h => .tail _ h) (fun _ h => h), u2.cons, o3, o4, (List.pairwise_cons.mp q7).2, ?_, fun x hx => q9 x (.tail _ hx), ?_, ?_, ?_, u12⟩⟩
              · rw [← q8, List.map_cons, List.foldl_cons, turnP_eq u10.symm, List.map_append]
                rfl
              · rw [List.length_append, List.length_singleton]; omega
              · rw [List.length_append, List.length_singleton]; omega
              · rw [List.map_append]; exact hangOk_snoc q12 hd7 hl0 hl8 hp7
      case rest2v23 =>
        clear F1 N1
        rintro st ⟨its, hk, ck, kk, n1, n2, tl, m, h, tk, load, tl0, r, rfl, F1, N1, h0, ⟨m1, m2, m3, m4, m5, m6, m7⟩, ⟨q1, q2, q3, q4, q5, q6, q7, q8, q9, q10, q11, q12, q13⟩⟩
        have hr0 : r = [] := List.length_eq_zero_iff.mp (by rw [← perm_len q6]; exact h0.symm)
        subst hr0
        have hc : (cutF ld room (tss.map (·.1))).cuts = ck.map (·.2) := (congrArg St.cuts q8).symm
        have hlo : (cutF ld room (tss.map (·.1))).load = load := (congrArg St.load q8).symm
        (try dsimp only)
        (repeat' (first | (k_unfold; (try dsimp only)) | (k_end; wrow_close) | ((with_reducible show wpAny _ _ (execs _ _) _ _ _); k_fold) | ((with_reducible show wpAny _ _ (eval (PySem.Expr.Name _ _) _) _ _ _); (k_here; k_dflt (refine' PyProof.Rows.ld ?k1u251 ?k2u251 ?_; (case k1u251 => k_asm); (case k2u251 => first | with_reducible assumption | assumption); k_whole))) | walk1 | (dsimp only; first | ((with_reducible show wpAny _ _ (eval (PySem.Expr.Name _ _) _) _ _ _); (k_here; k_dflt (refine' PyProof.Rows.ld ?k1u252 ?k2u252 ?_; (case k1u252 => k_asm); (case k2u252 => first | with_reducible assumption | assumption); k_whole))) | walk1) | ((simp only [List.cons_append, List.nil_append]); walk1) | (leave1; try dsimp only) | fail "no step"))
        have F2 := (by assumption : Fr h₀ L _ _)
        have N2 := (by assumption : News h₀ L _ ((_, tup2 [.ref _, .int _ _]) :: (_, listOf (valsI its).toArray _) :: _))
        subst hlo
        exact hret _ _ _ _ ⟨⟨_, _, _, _, _, _, ck, n2, tl, hc.symm, q3, q4⟩, rfl, rfl⟩ F2 (News.sub N2 sub_ret) (by assumption)
  have S0 : ∀ w, OverSpec Mine.main.heap_1_39 Mine.main.view_1_40 w := over_ok
  have S1 : ∀ w, PlacesSpec Mine.main.heap_1_39 Mine.main.view_1_40 w := places_ok
  have S2 : ∀ w, CutSpec Mine.main.heap_1_39 Mine.main.view_1_40 w := cut_ok
  have S4 : ∀ w, ItemsSpec Mine.main.heap_1_39 Mine.main.view_1_40 w := items_ok
  have S5 : ∀ w, LenHSpecK Mine.main.heap_1_39 Mine.main.view_1_40 w := fun w => LenHSpec.k (lenh_ok w)
  have S6 : ∀ w, FewSpec Mine.main.heap_1_39 Mine.main.view_1_40 w := few_ok
  have S3 : ∀ w, HeadSpecK Mine.main.heap_1_39 Mine.main.view_1_40 w := fun w => HeadSpec.k (head_ok w)
  clear cut_ok few_ok head_ok places_ok over_ok add_ok set_ok has_ok get_ok del_ok items_ok lenh_ok getall_ok conv_ok hfy_ok pop_ok push_ok su_ok sd_ok join_ok dirname_ok fspath_ok getsep_ok
  k_go0
  (all_goals try k_fold)
  rename List Int => ns
  have hlen4 : (List.take 4 ns).length ≤ 4 := List.length_take_le ..
  obtain ⟨nums, hnums⟩ : ∃ nums, nums = [13, 26, 42] ++ List.take 4 ns := ⟨_, rfl⟩
  have hnl : nums.length ≤ 7 := by rw [hnums, List.length_append]; simp only [List.length_cons, List.length_nil]; omega
  (repeat' (first | (k_unfold; (try dsimp only)) | (k_end; wrow_close) | ((with_reducible show wpAny _ _ (execs _ _) _ _ _); k_fold) | (k_here; (with_reducible show wpAny _ _ (call (Value.ref 329) _ _) _ _ _); (try dsimp only); refine stop_here ?_) | walk1 | (dsimp only; first | (k_here; (with_reducible show wpAny _ _ (call (Value.ref 329) _ _) _ _ _); (try dsimp only); refine stop_here ?_) | walk1) | ((simp only [List.cons_append, List.nil_append]); walk1) | (leave1; try dsimp only) | fail "no step"))
  refine Stopped.mk ?_
  (try ((with_reducible show wpAny _ _ _ _ _ _); k_fold))
  have hI := (by assumption : IntsAre _ ([13, 26, 42] ++ List.take 4 ns))
  rw [← hnums] at hI
  obtain ⟨ts, rfl, hts⟩ := ints_of hI
  have htsl : ts.length ≤ 7 := by rw [← hts, List.length_map] at hnl; exact hnl
  refine' CallOk.useN (S0 _ _ nums ?q1v99) ?k1v99 ?k2v99 ?k3v99 ?k4v99 ?k5v99 ?kKv99 ?kdv99 ?kuv99 ?kpv99 ?_
  case kpv99 => exact ints_atE (by assumption) (by k_mem) hts
  case k1v99 => k_asm
  case k2v99 => k_asm
  case k3v99 => k_asm
  case k4v99 => k_asm
  case k5v99 => k_asm
  case kKv99 => first | exact rfl | assumption
  case kdv99 => (first | exact room2 (by assumption) rfl | exact room1 (by assumption) rfl | exact room0 (by assumption) | exact blt rfl | ktr_room)
  case kuv99 => (first | exact room2 (by assumption) rfl | exact room1 (by assumption) rfl | exact room0 (by assumption) | exact blt rfl | ktr_units)
  case q1v99 => omega
  rintro ⟨yo, ⟨ots, hots⟩, no⟩ h2 tk2 F2 N2
  simp only [List.cons_append, List.nil_append] at N2
  try dsimp only at N2
  try dsimp only
  have c1 := cells_off N2 (.head _) _ (.tail _ (.tail _ (.tail _ (.tail _ (.tail _ (.head _)))))) ⟨_, by assumption⟩
  have c2 := cells_off N2 (.head _) _ (.tail _ (.tail _ (.tail _ (.tail _ (.tail _ (.tail _ (.head _))))))) ⟨_, by assumption⟩
  have c3 := cells_off N2 (.head _) _ (.tail _ (.tail _ (.tail _ (.tail _ (.tail _ (.tail _ (.tail _ (.head _)))))))) ⟨_, by assumption⟩
  have c4 := cells_off N2 (.head _) _ (.tail _ (.tail _ (.tail _ (.tail _ (.tail _ (.tail _ (.tail _ (.tail _ (.head _))))))))) ⟨_, by assumption⟩
  have c5 := cells_off N2 (.head _) _ (.tail _ (.tail _ (.tail _ (.tail _ (.tail _ (.tail _ (.tail _ (.tail _ (.tail _ (.head _)))))))))) ⟨_, by assumption⟩
  try dsimp only at c1 c2 c3 c4 c5
  (repeat' (first | (k_unfold; (try dsimp only)) | (k_end; wrow_close) | ((with_reducible show wpAny _ _ (execs _ _) _ _ _); k_fold) | (k_here; (with_reducible show wpAny _ _ (call (Value.ref 336) _ _) _ _ _); (try dsimp only); refine stop_here ?_) | walk1 | (dsimp only; first | (k_here; (with_reducible show wpAny _ _ (call (Value.ref 336) _ _) _ _ _); (try dsimp only); refine stop_here ?_) | walk1) | ((simp only [List.cons_append, List.nil_append]); walk1) | (leave1; try dsimp only) | fail "no step"))
  refine Stopped.mk ?_
  (try ((with_reducible show wpAny _ _ _ _ _ _); k_fold))
  have hok := over_ok hnl
  obtain ⟨ov, hov⟩ : ∃ ov, ov = overF nums := ⟨_, rfl⟩
  rw [← hov] at hots hok
  try clear F2 N2
  refine' CallOk.useN (S1 _ _ ov hok) ?k1v99 ?k2v99 ?k3v99 ?k4v99 ?k5v99 ?kKv99 ?kdv99 ?kuv99 ?kpv99 ?_
  case kpv99 => exact ints_atE (by assumption) (.head _) hots
  case k1v99 => k_asm
  case k2v99 => k_asm
  case k3v99 => k_asm
  case k4v99 => k_asm
  case k5v99 => k_asm
  case kKv99 => first | exact rfl | assumption
  case kdv99 => (first | exact room2 (by assumption) rfl | exact room1 (by assumption) rfl | exact room0 (by assumption) | exact blt rfl | ktr_room)
  case kuv99 => (first | exact room2 (by assumption) rfl | exact room1 (by assumption) rfl | exact room0 (by assumption) | exact blt rfl | ktr_units)
  rintro ⟨yp, ⟨pts, hpts⟩, np⟩ h3 tk3 F3 N3
  simp only [List.cons_append, List.nil_append] at N3
  try dsimp only at N3
  try dsimp only
  have d1 := cells_off N3 (.head _) _ (.tail _ (.tail _ (.tail _ (.tail _ (.tail _ (.tail _ (.head _))))))) ⟨_, by assumption⟩
  have d2 := cells_off N3 (.head _) _ (.tail _ (.tail _ (.tail _ (.tail _ (.tail _ (.tail _ (.tail _ (.head _)))))))) ⟨_, by assumption⟩
  have d3 := cells_off N3 (.head _) _ (.tail _ (.tail _ (.tail _ (.tail _ (.tail _ (.tail _ (.tail _ (.tail _ (.head _))))))))) ⟨_, by assumption⟩
  have d4 := cells_off N3 (.head _) _ (.tail _ (.tail _ (.tail _ (.tail _ (.tail _ (.tail _ (.tail _ (.tail _ (.tail _ (.head _)))))))))) ⟨_, by assumption⟩
  have d5 := cells_off N3 (.head _) _ (.tail _ (.tail _ (.tail _ (.tail _ (.tail _ (.tail _ (.tail _ (.tail _ (.tail _ (.tail _ (.head _))))))))))) ⟨_, by assumption⟩
  try dsimp only at d1 d2 d3 d4 d5
  (repeat' (first | (k_unfold; (try dsimp only)) | (k_end; wrow_close) | ((with_reducible show wpAny _ _ (execs _ _) _ _ _); k_fold) | ((with_reducible show LCg.CompSrc _ _ _ _ _ _ _ _ _ _ _ _ _ _); (refine stop_here ?_)) | ((with_reducible show wpAny _ _ (eval (PySem.Expr.ListComp _ _ _ _) _) _ _ _); (k_here; k_dflt (refine LCg.ListComp_U (F₀ := by k_asm) (by with_unfolding_all rfl) (by decide) (by rfl) (by decide) (by rfl) ?_))) | walk1 | (dsimp only; first | ((with_reducible show LCg.CompSrc _ _ _ _ _ _ _ _ _ _ _ _ _ _); (refine stop_here ?_)) | ((with_reducible show wpAny _ _ (eval (PySem.Expr.ListComp _ _ _ _) _) _ _ _); (k_here; k_dflt (refine LCg.ListComp_U (F₀ := by k_asm) (by with_unfolding_all rfl) (by decide) (by rfl) (by decide) (by rfl) ?_))) | walk1) | ((simp only [List.cons_append, List.nil_append]); walk1) | (leave1; try dsimp only) | fail "no step"))
  refine Stopped.mk ?_
  (try ((with_reducible show wpAny _ _ _ _ _ _); k_fold))
  have F4 := (by assumption : Fr _ _ _ _)
  have N4 := (by assumption : News _ _ _ (_ :: (yp, _) :: _))
  try clear F3 N3
  refine LCg.CompSrc.ledger (its := (valsN ts).toArray) rfl F4 N4 (by k_mem) (by rw [List.size_toArray, List.length_map, sizeLine_eq]; omega) (fun g => ?_)
  refine comp_inv (fun i ys news => news = _ ∧ ∃ ls : TI, ys = valsN ls ∧ ls.map (·.1) = (ts.take i).map (fun q => q.1.fmod 5 + 1)) ?ctv99 ?cfv99 _ 0 [] _ (Nat.zero_add _) ⟨rfl, [], rfl, rfl⟩
  case ctv99 =>
    clear F4 N4
    intro i ys news v I oI C oC D m2' h tk E' hi HH14 hv hC hx F2 N2 o1 o2
    (try ((with_reducible show wpAny _ _ _ _ _ _); k_fold))
    obtain ⟨rfl, ls, rfl, hls⟩ := HH14
    obtain ⟨q, hq, rfl⟩ := val_at hv
    (try dsimp only)
    (repeat' (first | (k_unfold; (try dsimp only)) | (k_end; wrow_close) | ((with_reducible show wpAny _ _ (execs _ _) _ _ _); k_fold) | walk1 | (dsimp only; first | walk1) | ((simp only [List.cons_append, List.nil_append]); walk1) | (leave1; try dsimp only) | fail "no step"))
    have F3 := (by assumption : Fr _ _ _ _)
    have N3 := (by assumption : News _ _ _ ((I, oI) :: _))
    exact LCg.CompEnd.intro F3 N3 _ (fun _ h => h) o1 (.inr ⟨_, by k_mem, rfl, _, rfl⟩) ⟨rfl, ls ++ [(_, _)], valsN_snoc.symm, by rw [List.map_append, hls, take_at hq, List.map_append]; rfl⟩
  case cfv99 =>
    rintro ys news ⟨rfl, ls, rfl, hls⟩
    rw [show (valsN ts).toArray.size = ts.length by simp, List.take_length] at hls
    have hll : ls.length ≤ 7 := by
      have := congrArg List.length hls
      rw [List.length_map, List.length_map] at this
      omega
    try clear F4 N4
    (repeat' (first | (k_unfold; (try dsimp only)) | (k_end; wrow_close) | ((with_reducible show wpAny _ _ (execs _ _) _ _ _); k_fold) | ((with_reducible show wpAny _ _ (call (Value.type "zip") _ _) _ _ _); (refine stop_here ?_)) | (k_here; (with_reducible show wpAny _ _ (binaryOp Operator.Add (Value.ref _) (Value.ref _)) _ _ _); k_dflt (refine' r_listAdd ?k1u262 ?k2u262 ?k3u262 ?k4u262 ?k5u262 ?_; (case k1u262 => k_asm); (case k2u262 => k_asm); (case k3u262 => k_mem); (case k4u262 => k_mem); (case k5u262 => (first | assumption | exact Nat.le_trans (by assumption) (by decide) | exact Nat.lt_of_le_of_lt (by assumption) (by decide) | omega)); k_whole); intro zD' zh' zF' zN' zl1; (try k_lt zl1)) | walk1 | (dsimp only; first | ((with_reducible show wpAny _ _ (call (Value.type "zip") _ _) _ _ _); (refine stop_here ?_)) | (k_here; (with_reducible show wpAny _ _ (binaryOp Operator.Add (Value.ref _) (Value.ref _)) _ _ _); k_dflt (refine' r_listAdd ?k1u264 ?k2u264 ?k3u264 ?k4u264 ?k5u264 ?_; (case k1u264 => k_asm); (case k2u264 => k_asm); (case k3u264 => k_mem); (case k4u264 => k_mem); (case k5u264 => (first | assumption | exact Nat.le_trans (by assumption) (by decide) | exact Nat.lt_of_le_of_lt (by assumption) (by decide) | omega)); k_whole); intro zD' zh' zF' zN' zl1; (try k_lt zl1)) | walk1) | ((simp only [List.cons_append, List.nil_append]); walk1) | (leave1; try dsimp only) | fail "no step"))
    refine Stopped.mk ?_
    (try ((with_reducible show wpAny _ _ _ _ _ _); k_fold))
    have F5 := (by assumption : Fr _ _ _ _)
    have N5 := (by assumption : News _ _ _ ((_, listOf (valsN ((2, _) :: ls)).toArray 0) :: _))
    refine r_zip F5 N5 (PySem.IsL.isList (n := np) (N5 (yp, listOf (valsS pts).toArray np) (by k_mem)).1) (PySem.IsL.isList (n := 0) (N5 _ (.head _)).1) ?_
    intro z ZTI ZTO zi1 zi2 sz h6 F6 N6 Z6
    try clear F5 N5
    (try dsimp only)
    (repeat' (first | (k_unfold; (try dsimp only)) | (k_end; wrow_close) | ((with_reducible show wpAny _ _ (execs _ _) _ _ _); k_fold) | ((with_reducible show wpAny _ _ (call (Value.type "dict") _ _) _ _ _); (refine stop_here ?_)) | walk1 | (dsimp only; first | ((with_reducible show wpAny _ _ (call (Value.type "dict") _ _) _ _ _); (refine stop_here ?_)) | walk1) | ((simp only [List.cons_append, List.nil_append]); walk1) | (leave1; try dsimp only) | fail "no step"))
    refine Stopped.mk ?_
    (try ((with_reducible show wpAny _ _ _ _ _ _); k_fold))
    have hnod : (pts.map (·.1)).Nodup := by rw [hpts]; exact placesF_nodup hok
    have hpl : pts.length = nums.length + 1 := by
      have h1 := congrArg List.length hpts
      rw [List.length_map] at h1
      rw [h1, placesF_len hok, hov, overF_len]
    have hll2 : ls.length = nums.length := by
      have h1 := congrArg List.length hls
      have h2 := congrArg List.length hts
      rw [List.length_map, List.length_map] at h1
      rw [List.length_map] at h2
      omega
    refine r_dictZip (n := nums.length + 1) rfl F6 N6 (modules_low (Top.nolimit (by assumption))) Z6 hpl ?hl2v99 hnod (by omega) (by omega) ?_
    case hl2v99 => rw [List.length_cons, hll2]
    intro DD od h7 tk7 F7 N7 l7 hD7
    k_lt l7
    (try dsimp only)
    try clear F6 N6 Z6
    (repeat' (first | (k_unfold; (try dsimp only)) | (k_end; wrow_close) | ((with_reducible show wpAny _ _ (execs _ _) _ _ _); k_fold) | (k_here; (with_reducible show wpAny _ _ (call (Value.ref 341) _ _) _ _ _); (try dsimp only); refine stop_here ?_) | walk1 | (dsimp only; first | (k_here; (with_reducible show wpAny _ _ (call (Value.ref 341) _ _) _ _ _); (try dsimp only); refine stop_here ?_) | walk1) | ((simp only [List.cons_append, List.nil_append]); walk1) | (leave1; try dsimp only) | fail "no step"))
    refine Stopped.mk ?_
    (try ((with_reducible show wpAny _ _ _ _ _ _); k_fold))
    obtain ⟨room, hroom⟩ : ∃ room, room = 5 + (List.take 4 ns).sum.fmod 4 := ⟨_, rfl⟩
    rw [← hroom]
    have hr1 : 5 ≤ room ∧ room ≤ 8 := by
      have h1 := Int.fmod_nonneg_of_pos (List.take 4 ns).sum (b := 4) (by decide)
      have h2 := Int.fmod_lt_of_pos (List.take 4 ns).sum (b := 4) (by decide)
      omega
    obtain ⟨ld, hld⟩ : ∃ ld, ld = ldF (pts.map (·.1)) (2 :: ls.map (·.1)) := ⟨_, rfl⟩
    have hpl7 : ∀ p ∈ pts.map (·.1), p ∈ pl 7 := by rw [hpts]; exact placesF_7 hok
    have hlL : 2 :: ls.map (·.1) = loadsF nums := by
      rw [hls, ← hts]
      unfold loadsF
      rw [List.map_map]
      rfl
    have hov0 : ov.getD 0 0 = 0 := by rw [hov]; exact overF_zero nums
    have hlo : (2 :: ls.map (·.1)).length = ov.length := by
      rw [List.length_cons, List.length_map, hov, overF_len]; omega
    have hlb : ∀ v ∈ 2 :: ls.map (·.1), 1 ≤ v ∧ v ≤ 5 := fun v hv => loads_bound (hlL ▸ hv)
    have hldb : ∀ p ∈ pts.map (·.1), 0 ≤ ld p ∧ ld p ≤ room := fun p hp => by
      have := hlb _ (ldF_mem (ss := pts.map (·.1)) (ls := 2 :: ls.map (·.1)) (by rw [List.length_map, List.length_cons, List.length_map]; omega) hp)
      rw [hld]
      omega
    refine' CallOk.useN (S2 _ _ _ (pts.map (·.1)) ld room _ ?q1v99 hpl7 hldb hr1.2) ?k1v99 ?k2v99 ?k3v99 ?k4v99 ?k5v99 ?kKv99 ?kdv99 ?kuv99 ?kpv99 ?_
    case q1v99 => rw [List.length_map]; omega
    case kpv99 =>
      rw [hld]
      exact ⟨strs_atE N7 (by k_mem) rfl, dict_at (lts := (2, _) :: ls) (hD7 _ (N7 _ (.head _)).1) hpl (by rw [List.length_cons, hll2])⟩
    case k1v99 => k_asm
    case k2v99 => k_asm
    case k3v99 => k_asm
    case k4v99 => k_asm
    case k5v99 => k_asm
    case kKv99 => first | exact rfl | assumption
    case kdv99 => (first | exact room2 (by assumption) rfl | exact room1 (by assumption) rfl | exact room0 (by assumption) | exact blt rfl | ktr_room)
    case kuv99 => (first | exact room2 (by assumption) rfl | exact room1 (by assumption) rfl | exact room0 (by assumption) | exact blt rfl | ktr_units)
    rintro ⟨yT, yx, yd, yl, yu, yt, its, yn, tl0, hits, hin0, htp0⟩ h8 tk8 F8 N8
    obtain ⟨tl, hs0, hin, htl⟩ := hin_min hin0
    simp only [List.cons_append, List.nil_append] at N8
    (try dsimp only at N8)
    have N9 := News.sub N8 (sub_cut hs0)
    clear N8
    have ec5T := cell_apart N9 (.tail _ (.tail _ (.tail _ (.tail _ (.tail _ (.tail _ (.tail _ (.head _)))))))) (by assumption) (.head _) (fun v h => by cases h)
    have ec5l := cell_apart N9 (.tail _ (.tail _ (.tail _ (.tail _ (.tail _ (.tail _ (.tail _ (.head _)))))))) (by assumption) (.tail _ (.head _)) seq_no_cell
    have ec5x := cell_apart N9 (.tail _ (.tail _ (.tail _ (.tail _ (.tail _ (.tail _ (.tail _ (.head _)))))))) (by assumption) (.tail _ (.tail _ (.head _))) inst_no_cell
    have ec5d := cell_apart N9 (.tail _ (.tail _ (.tail _ (.tail _ (.tail _ (.tail _ (.tail _ (.head _)))))))) (by assumption) (.tail _ (.tail _ (.tail _ (.head _)))) hdD_no_cell
    have ec5o := cell_apart N9 (.tail _ (.tail _ (.tail _ (.tail _ (.tail _ (.tail _ (.tail _ (.head _)))))))) (by assumption) (.tail _ (.tail _ (.tail _ (.tail _ (.head _))))) seq_no_cell
    have ec5p := cell_apart N9 (.tail _ (.tail _ (.tail _ (.tail _ (.tail _ (.tail _ (.tail _ (.head _)))))))) (by assumption) (.tail _ (.tail _ (.tail _ (.tail _ (.tail _ (.head _)))))) seq_no_cell
    have ec5v := cell_apart N9 (.tail _ (.tail _ (.tail _ (.tail _ (.tail _ (.tail _ (.tail _ (.head _)))))))) (by assumption) (.tail _ (.tail _ (.tail _ (.tail _ (.tail _ (.tail _ (.head _))))))) seq_no_cell
    have ec5t := cell_tl (tl := tl) N9 (.tail _ (.tail _ (.tail _ (.tail _ (.tail _ (.tail _ (.tail _ (.head _)))))))) (by assumption) (fun p hp => (.tail _ (.tail _ (.tail _ (.tail _ (.tail _ (.tail _ (.tail _ (.tail _ (.tail _ (.tail _ (.tail _ (.tail _ hp))))))))))))) htl
    have ec4T := cell_apart N9 (.tail _ (.tail _ (.tail _ (.tail _ (.tail _ (.tail _ (.tail _ (.tail _ (.head _))))))))) (by assumption) (.head _) (fun v h => by cases h)
    have ec4l := cell_apart N9 (.tail _ (.tail _ (.tail _ (.tail _ (.tail _ (.tail _ (.tail _ (.tail _ (.head _))))))))) (by assumption) (.tail _ (.head _)) seq_no_cell
    have ec4x := cell_apart N9 (.tail _ (.tail _ (.tail _ (.tail _ (.tail _ (.tail _ (.tail _ (.tail _ (.head _))))))))) (by assumption) (.tail _ (.tail _ (.head _))) inst_no_cell
    have ec4d := cell_apart N9 (.tail _ (.tail _ (.tail _ (.tail _ (.tail _ (.tail _ (.tail _ (.tail _ (.head _))))))))) (by assumption) (.tail _ (.tail _ (.tail _ (.head _)))) hdD_no_cell
    have ec4o := cell_apart N9 (.tail _ (.tail _ (.tail _ (.tail _ (.tail _ (.tail _ (.tail _ (.tail _ (.head _))))))))) (by assumption) (.tail _ (.tail _ (.tail _ (.tail _ (.head _))))) seq_no_cell
    have ec4p := cell_apart N9 (.tail _ (.tail _ (.tail _ (.tail _ (.tail _ (.tail _ (.tail _ (.tail _ (.head _))))))))) (by assumption) (.tail _ (.tail _ (.tail _ (.tail _ (.tail _ (.head _)))))) seq_no_cell
    have ec4v := cell_apart N9 (.tail _ (.tail _ (.tail _ (.tail _ (.tail _ (.tail _ (.tail _ (.tail _ (.head _))))))))) (by assumption) (.tail _ (.tail _ (.tail _ (.tail _ (.tail _ (.tail _ (.head _))))))) seq_no_cell
    have ec4t := cell_tl (tl := tl) N9 (.tail _ (.tail _ (.tail _ (.tail _ (.tail _ (.tail _ (.tail _ (.tail _ (.head _))))))))) (by assumption) (fun p hp => (.tail _ (.tail _ (.tail _ (.tail _ (.tail _ (.tail _ (.tail _ (.tail _ (.tail _ (.tail _ (.tail _ (.tail _ hp))))))))))))) htl
    (try dsimp only)
    (repeat' (first | (k_unfold; (try dsimp only)) | (k_end; wrow_close) | ((with_reducible show wpAny _ _ (execs _ _) _ _ _); k_fold) | ((with_reducible show LCg.CompSrc _ _ _ _ _ _ _ _ _ _ _ _ _ _); (refine stop_here ?_)) | ((with_reducible show wpAny _ _ (eval (PySem.Expr.ListComp _ _ _ _) _) _ _ _); (k_here; k_dflt (refine LCg.ListComp_U (F₀ := by k_asm) (by with_unfolding_all rfl) (by decide) (by rfl) (by decide) (by rfl) ?_))) | walk1 | (dsimp only; first | ((with_reducible show LCg.CompSrc _ _ _ _ _ _ _ _ _ _ _ _ _ _); (refine stop_here ?_)) | ((with_reducible show wpAny _ _ (eval (PySem.Expr.ListComp _ _ _ _) _) _ _ _); (k_here; k_dflt (refine LCg.ListComp_U (F₀ := by k_asm) (by with_unfolding_all rfl) (by decide) (by rfl) (by decide) (by rfl) ?_))) | walk1) | ((simp only [List.cons_append, List.nil_append]); walk1) | (leave1; try dsimp only) | fail "no step"))
    refine Stopped.mk ?_
    (try ((with_reducible show wpAny _ _ _ _ _ _); k_fold))
    have F10 := (by assumption : Fr _ _ _ _)
    have N10 := (by assumption : News _ _ _ ((yT, _) :: _))
    have hE : LawEnd ov (2 :: ls.map (·.1)) room its := law_end hok hov0 hlo hlb hr1.1 hr1.2 (by rw [hits, hld, hpts])
    have hdl : hdLens its := cutLens_of (Nat.le_trans hE.len (by decide)) hE.ok
    refine LCg.CompSrc.ledger (its := (valsS pts).toArray) rfl F10 N10 (by k_mem) (by rw [List.size_toArray, List.length_map, sizeLine_eq]; omega) (fun g => ?_)
    refine comp_inv (fun i ys news => news = _ ∧ ∃ hs : TS, ys = valsS hs ∧ hs.map (·.1) = (pts.take i).map (fun q => headF its 16 q.1)) ?ct2v99 ?cf2v99 _ 0 [] _ (Nat.zero_add _) ⟨rfl, [], rfl, rfl⟩
    case ct2v99 =>
      clear F10 N10
      intro i ys news v I oI C oC D m2' h tk E' hi HH14 hv hC hx F2 N2 o1 o2
      (try ((with_reducible show wpAny _ _ _ _ _ _); k_fold))
      obtain ⟨rfl, hs, rfl, hhs⟩ := HH14
      obtain ⟨q, hq, rfl⟩ := val_at hv
      have hq7 : q.1 ∈ pl 7 := hpl7 q.1 (List.mem_map_of_mem (List.mem_of_getElem? hq))
      (try dsimp only)
      (repeat' (first | (k_unfold; (try dsimp only)) | (k_end; wrow_close) | ((with_reducible show wpAny _ _ (execs _ _) _ _ _); k_fold) | (k_here; (with_reducible show wpAny _ _ (call (Value.ref 348) _ _) _ _ _); (try dsimp only); k_dflt (refine' CallOk.useK ((show ∀ w, HeadSpecK _ _ w by assumption) _ _ _ _ _ _ _ _ _ ?q1u273 ?q2u273) ?k1u273 ?k2u273 ?k3u273 ?k4u273 ?k5u273 ?kKu273 ?kdu273 ?kuu273 ?kpu273 ?h1u273 ?_; (case k1u273 => k_asm); (case k2u273 => k_asm); (case k3u273 => k_asm); (case k4u273 => k_asm); (case k5u273 => k_asm); (case kKu273 => first | exact rfl | assumption); (case kdu273 => (first | exact room2 (by assumption) rfl | exact room1 (by assumption) rfl | exact room0 (by assumption) | exact blt rfl | ktr_room)); (case kuu273 => (first | exact room2 (by assumption) rfl | exact room1 (by assumption) rfl | exact room0 (by assumption) | exact blt rfl | ktr_units)); (case h1u273 => (refine List.forall_mem_cons.mpr ⟨by k_mem, List.forall_mem_cons.mpr ⟨by k_mem, List.forall_mem_cons.mpr ⟨by k_mem, List.forall_mem_nil _⟩⟩⟩)); (case kpu273 => (refine' hat_of ?kau273 ?kbu273 ?kcu273; (case kau273 => k_asm); (case kcu273 => assumption); (case kbu273 => exact fun p hp => by (repeat (first | exact hp | refine List.Mem.tail _ ?_))))); (case q1u273 => assumption); (case q2u273 => assumption); skip); intro zy9 zh9 ztk9 zF9 zN9; (try simp only [List.nil_append] at zN9); (try dsimp only); (try k_sweep)) | walk1 | (dsimp only; first | (k_here; (with_reducible show wpAny _ _ (call (Value.ref 348) _ _) _ _ _); (try dsimp only); k_dflt (refine' CallOk.useK ((show ∀ w, HeadSpecK _ _ w by assumption) _ _ _ _ _ _ _ _ _ ?q1u274 ?q2u274) ?k1u274 ?k2u274 ?k3u274 ?k4u274 ?k5u274 ?kKu274 ?kdu274 ?kuu274 ?kpu274 ?h1u274 ?_; (case k1u274 => k_asm); (case k2u274 => k_asm); (case k3u274 => k_asm); (case k4u274 => k_asm); (case k5u274 => k_asm); (case kKu274 => first | exact rfl | assumption); (case kdu274 => (first | exact room2 (by assumption) rfl | exact room1 (by assumption) rfl | exact room0 (by assumption) | exact blt rfl | ktr_room)); (case kuu274 => (first | exact room2 (by assumption) rfl | exact room1 (by assumption) rfl | exact room0 (by assumption) | exact blt rfl | ktr_units)); (case h1u274 => (refine List.forall_mem_cons.mpr ⟨by k_mem, List.forall_mem_cons.mpr ⟨by k_mem, List.forall_mem_cons.mpr ⟨by k_mem, List.forall_mem_nil _⟩⟩⟩)); (case kpu274 => (refine' hat_of ?kau274 ?kbu274 ?kcu274; (case kau274 => k_asm); (case kcu274 => assumption); (case kbu274 => exact fun p hp => by (repeat (first | exact hp | refine List.Mem.tail _ ?_))))); (case q1u274 => assumption); (case q2u274 => assumption); skip); intro zy9 zh9 ztk9 zF9 zN9; (try simp only [List.nil_append] at zN9); (try dsimp only); (try k_sweep)) | walk1) | ((simp only [List.cons_append, List.nil_append]); walk1) | (leave1; try dsimp only) | fail "no step"))
      have F3 := (by assumption : Fr _ _ _ _)
      have N3 := (by assumption : News _ _ _ ((I, oI) :: _))
      exact LCg.CompEnd.intro F3 N3 _ (fun _ h => h) o1 (.inr ⟨_, by k_mem, rfl, _, rfl⟩) ⟨rfl, hs ++ [(_, _)], valsS_snoc.symm, by rw [List.map_append, hhs, take_at hq, List.map_append]; rfl⟩
    case cf2v99 =>
      rintro ys news ⟨rfl, hs, rfl, hhs⟩
      rw [show (valsS pts).toArray.size = pts.length by simp, List.take_length] at hhs
      have hhl : hs.length = pts.length := by
        have := congrArg List.length hhs
        rw [List.length_map, List.length_map] at this
        exact this
      clear F10 N10
      (repeat' (first | (k_unfold; (try dsimp only)) | (k_end; wrow_close) | ((with_reducible show wpAny _ _ (execs _ _) _ _ _); k_fold) | ((with_reducible show wpAny _ _ (exec (Stmt.Assign [_] (PySem.Expr.ListComp _ _ _ _) _) _) _ _ _); (k_here; (with_reducible show wpAny _ _ (exec (Stmt.Assign [Expr.Name (Str.ofString "parts") _] _ _) _) _ _ _); refine stop_here ?_)) | walk1 | (dsimp only; first | ((with_reducible show wpAny _ _ (exec (Stmt.Assign [_] (PySem.Expr.ListComp _ _ _ _) _) _) _ _ _); (k_here; (with_reducible show wpAny _ _ (exec (Stmt.Assign [Expr.Name (Str.ofString "parts") _] _ _) _) _ _ _); refine stop_here ?_)) | walk1) | ((simp only [List.cons_append, List.nil_append]); walk1) | (leave1; try dsimp only) | fail "no step"))
      refine Stopped.mk ?_
      (try ((with_reducible show wpAny _ _ _ _ _ _); k_fold))
      have F11 := (by assumption : Fr _ _ _ _)
      have N11 := (by assumption : News _ _ _ ((_, LCg.lst (valsS hs)) :: _))
      have hlsl : ls.length + 1 = pts.length := by omega
      refine Assign_ListComp_K F11 rfl (by rfl) (by with_unfolding_all rfl) (fun _ => rfl) (fun _ => rfl) rfl (by decide) (by rfl) (by rfl) (by rfl) ?_
      (repeat' (first | (k_unfold; (try dsimp only)) | (k_end; wrow_close) | ((with_reducible show wpAny _ _ (execs _ _) _ _ _); k_fold) | walk1 | (dsimp only; first | walk1) | ((simp only [List.cons_append, List.nil_append]); walk1) | (leave1; try dsimp only) | fail "no step"))
      refine ⟨yp, (valsS pts).toArray, np, _, (fun i vs => ∃ qs : TI, vs = valsN qs ∧ qs.map (·.1) = partsF ((pts.map (·.1)).take i) (hs.map (·.1)) (2 :: ls.map (·.1))), rfl, rfl, F11, N11, by k_mem, by rw [List.size_toArray, List.length_map, sizeLine_eq]; omega, ⟨[], rfl, rfl⟩, ?pturnv99, ?pfinv99⟩
      case pturnv99 =>
        clear F11 N11
        intro i vs v I oI C oC D K oK h tk2 E' hi HH14 hv hK F2 N2 o1 o2
        (try ((with_reducible show wpAny _ _ _ _ _ _); k_fold))
        obtain ⟨qs, rfl, hqs⟩ := HH14
        obtain ⟨q, hq, rfl⟩ := val_at hv
        have o1' := off4 o1
        clear o1
        obtain ⟨bb, hbb⟩ : ∃ bb, (hs.map (·.1)).contains q.1 = bb := ⟨_, rfl⟩
        (try dsimp only)
        have hpi : (pts.map (·.1))[i]? = some q.1 := by rw [List.getElem?_map, hq]; rfl
        cases bb
        · (repeat' (first | (k_unfold; (try dsimp only)) | (k_end; wrow_close) | ((with_reducible show wpAny _ _ (execs _ _) _ _ _); k_fold) | ((with_reducible show wpAny _ _ (compareOp CmpOp.In (Value.str _ _) (Value.ref _)) _ _ _); (k_here; k_dflt (refine' r_inStrs ?k1u277 ?k2u277 ?k3u277 ?_; (case k1u277 => k_asm); (case k2u277 => k_mem); (case k3u277 => assumption); k_whole))) | walk1 | (dsimp only; first | ((with_reducible show wpAny _ _ (compareOp CmpOp.In (Value.str _ _) (Value.ref _)) _ _ _); (k_here; k_dflt (refine' r_inStrs ?k1u278 ?k2u278 ?k3u278 ?_; (case k1u278 => k_asm); (case k2u278 => k_mem); (case k3u278 => assumption); k_whole))) | walk1) | ((simp only [List.cons_append, List.nil_append]); walk1) | (leave1; try dsimp only) | fail "no step"))
          have F3 := (by assumption : Fr _ _ _ _)
          have N3 := (by assumption : News _ _ _ ((I, oI) :: _))
          exact Stopped.mk ⟨⟨_, _, rfl, F3, N3⟩, qs, rfl, by rw [partsF_at hpi, if_neg (by rw [hbb]; exact Bool.false_ne_true), List.append_nil]; exact hqs⟩
        · (repeat' (first | (k_unfold; (try dsimp only)) | (k_end; wrow_close) | ((with_reducible show wpAny _ _ (execs _ _) _ _ _); k_fold) | ((with_reducible show wpAny _ _ (compareOp CmpOp.In (Value.str _ _) (Value.ref _)) _ _ _); (k_here; k_dflt (refine' r_inStrs ?k1u279 ?k2u279 ?k3u279 ?_; (case k1u279 => k_asm); (case k2u279 => k_mem); (case k3u279 => assumption); k_whole))) | ((with_reducible show wpAny _ _ (eval (PySem.Expr.ListComp _ _ _ _) _) _ _ _); (k_here; (with_reducible show wpAny _ _ (eval (Expr.ListComp (Expr.Name (Str.ofString "load") _) _ _ _) _) _ _ _); refine stop_here ?_)) | walk1 | (dsimp only; first | ((with_reducible show wpAny _ _ (compareOp CmpOp.In (Value.str _ _) (Value.ref _)) _ _ _); (k_here; k_dflt (refine' r_inStrs ?k1u281 ?k2u281 ?k3u281 ?_; (case k1u281 => k_asm); (case k2u281 => k_mem); (case k3u281 => assumption); k_whole))) | ((with_reducible show wpAny _ _ (eval (PySem.Expr.ListComp _ _ _ _) _) _ _ _); (k_here; (with_reducible show wpAny _ _ (eval (Expr.ListComp (Expr.Name (Str.ofString "load") _) _ _ _) _) _ _ _); refine stop_here ?_)) | walk1) | ((simp only [List.cons_append, List.nil_append]); walk1) | (leave1; try dsimp only) | fail "no step"))
          refine Stopped.mk ?_
          (try ((with_reducible show wpAny _ _ _ _ _ _); k_fold))
          have F3 := (by assumption : Fr _ _ _ _)
          refine ListComp_Z F3 (by with_unfolding_all rfl) (by decide) rfl (by decide) rfl rfl (by decide) ?_
          (repeat' (first | (k_unfold; (try dsimp only)) | (k_end; wrow_close) | ((with_reducible show wpAny _ _ (execs _ _) _ _ _); k_fold) | ((with_reducible show wpAny _ _ (call (Value.type "zip") _ _) _ _ _); (refine stop_here ?_)) | walk1 | (dsimp only; first | ((with_reducible show wpAny _ _ (call (Value.type "zip") _ _) _ _ _); (refine stop_here ?_)) | walk1) | ((simp only [List.cons_append, List.nil_append]); walk1) | (leave1; try dsimp only) | fail "no step"))
          refine Stopped.mk ?_
          (try ((with_reducible show wpAny _ _ _ _ _ _); k_fold))
          have N3 := (by assumption : News _ _ _ ((I, oI) :: _))
          refine r_zip F3 N3 (xs := (valsS hs).toArray) (ys := (valsN ((2, _) :: ls)).toArray) (News.isList N3 (by k_mem)) (News.isList N3 (by k_mem)) ?_
          intro z ZTI ZTO zi1 zi2 sz h6 F6 N6 Z6
          (repeat' (first | (k_unfold; (try dsimp only)) | (k_end; wrow_close) | ((with_reducible show wpAny _ _ (execs _ _) _ _ _); k_fold) | walk1 | (dsimp only; first | walk1) | ((simp only [List.cons_append, List.nil_append]); walk1) | (leave1; try dsimp only) | fail "no step"))
          refine ⟨z, ZTI, ZTO, zi1, zi2, _, _, sz, pts.length, _, _, _, (fun j vs => ∃ rs : TI, vs = valsN rs ∧ rs.map (·.1) = partF ((hs.map (·.1)).take j) ((2 :: ls.map (·.1)).take j) q.1), rfl, rfl, F6, N6, Z6, by rw [List.size_toArray, List.length_map]; exact hhl, by rw [List.size_toArray, List.length_map, List.length_cons]; omega, by rw [sizeLine_eq]; omega, ⟨[], rfl, rfl⟩, ?zturnv99, ?zfinv99⟩
          case zturnv99 =>
            clear F3 N3 F6 N6 Z6
            intro j vs v1 v2 C2 oC2 m2 h tk3 E2 hj HH11 hv1 hv2 hC2 hx1 hx2 F3 N3 o3
            (try ((with_reducible show wpAny _ _ _ _ _ _); k_fold))
            obtain ⟨rs, rfl, hrs⟩ := HH11
            obtain ⟨qa, hqa, rfl⟩ := val_at hv1
            obtain ⟨qb, hqb, rfl⟩ := val_at hv2
            (try dsimp only)
            have ha1 : (hs.map (·.1))[j]? = some qa.1 := by rw [List.getElem?_map, hqa]; rfl
            have hb1 : (2 :: ls.map (·.1))[j]? = some qb.1 := by
              have := congrArg (Option.map (fun x : Int × Tok => x.1)) hqb
              rw [← List.getElem?_map] at this
              exact this
            (repeat' (first | (k_unfold; (try dsimp only)) | (k_end; wrow_close) | ((with_reducible show wpAny _ _ (execs _ _) _ _ _); k_fold) | walk1 | (dsimp only; first | walk1) | ((simp only [List.cons_append, List.nil_append]); walk1) | (leave1; try dsimp only) | fail "no step"))
            · have a1 := (by assumption : (qa.1 == q.1) = true)
              exact Stopped.mk ⟨⟨_, rfl⟩, rs ++ [(_, _)], valsN_snoc.symm, by rw [List.map_append, hrs, partF_at ha1 hb1, if_pos a1]; rfl⟩
            · have a1 := (by assumption : (qa.1 == q.1) = false)
              exact Stopped.mk ⟨⟨_, rfl⟩, rs, rfl, by rw [partF_at ha1 hb1, if_neg (by rw [a1]; exact Bool.false_ne_true), List.append_nil]; exact hrs⟩
          case zfinv99 =>
            clear F3 N3 F6 N6 Z6
            rintro vs D2 h tk3 ⟨rs, rfl, hrs⟩ F3 N3 l3
            have hfull1 : (hs.map (·.1)).take pts.length = hs.map (·.1) := List.take_of_length_le (by rw [List.length_map]; omega)
            have hfull2 : (2 :: ls.map (·.1)).take pts.length = 2 :: ls.map (·.1) := List.take_of_length_le (by rw [List.length_cons, List.length_map]; omega)
            rw [hfull1, hfull2] at hrs
            k_lt l3
            (try dsimp only)
            (repeat' (first | (k_unfold; (try dsimp only)) | (k_end; wrow_close) | ((with_reducible show wpAny _ _ (execs _ _) _ _ _); k_fold) | ((with_reducible show wpAny _ _ (call (Value.builtin "sum") _ _) _ _ _); (k_here; (show wpAny _ _ (call (Value.builtin "sum") [Value.ref _]) _ _ _); k_dflt (refine' r_sumN ?k0u285 ?k1u285 ?k2u285 ?k3u285 ?_; (case k0u285 => exact rfl); (case k1u285 => k_asm); (case k2u285 => k_asm); (case k3u285 => k_mem); k_whole); intro zh' ztk' zt' zF' zN')) | walk1 | (dsimp only; first | ((with_reducible show wpAny _ _ (call (Value.builtin "sum") _ _) _ _ _); (k_here; (show wpAny _ _ (call (Value.builtin "sum") [Value.ref _]) _ _ _); k_dflt (refine' r_sumN ?k0u286 ?k1u286 ?k2u286 ?k3u286 ?_; (case k0u286 => exact rfl); (case k1u286 => k_asm); (case k2u286 => k_asm); (case k3u286 => k_mem); k_whole); intro zh' ztk' zt' zF' zN')) | walk1) | ((simp only [List.cons_append, List.nil_append]); walk1) | (leave1; try dsimp only) | fail "no step"))
            have F4 := (by assumption : Fr _ _ _ _)
            have N4 := (by assumption : News _ _ _ ((D2, _) :: (I, oI) :: _))
            exact Stopped.mk ⟨⟨_, _, rfl, F4, News.sub N4 (fun p hp => .tail _ hp)⟩, qs ++ [(_, _)], valsN_snoc.symm, by rw [List.map_append, hqs, partsF_at hpi, if_pos hbb, ← hrs]; rfl⟩
      case pfinv99 =>
        clear F11 N11
        rintro vs Dp h tk3 ⟨qs, rfl, hqs⟩ F2 N2 l2
        rw [show (valsS pts).toArray.size = pts.length by simp, show (pts.map (·.1)).take pts.length = pts.map (·.1) from List.take_of_length_le (by rw [List.length_map]; omega)] at hqs
        have hovl : ots.length = pts.length := by
          have h1 := congrArg List.length hots
          have h2 := congrArg List.length hov
          rw [List.length_map] at h1
          rw [overF_len] at h2
          omega
        have hovl2 : (valsN ots).length = pts.length := by rw [List.length_map]; exact hovl
        k_lt l2
        (try dsimp only)
        (repeat' (first | (k_unfold; (try dsimp only)) | (k_end; wrow_close) | ((with_reducible show wpAny _ _ (execs _ _) _ _ _); k_fold) | ((with_reducible show wpAny _ _ (exec (Stmt.Assign [_] (PySem.Expr.ListComp _ _ _ _) _) _) _ _ _); (k_here; (with_reducible show wpAny _ _ (exec (Stmt.Assign [Expr.Name (Str.ofString "made") _] _ _) _) _ _ _); refine stop_here ?_)) | walk1 | (dsimp only; first | ((with_reducible show wpAny _ _ (exec (Stmt.Assign [_] (PySem.Expr.ListComp _ _ _ _) _) _) _ _ _); (k_here; (with_reducible show wpAny _ _ (exec (Stmt.Assign [Expr.Name (Str.ofString "made") _] _ _) _) _ _ _); refine stop_here ?_)) | walk1) | ((simp only [List.cons_append, List.nil_append]); walk1) | (leave1; try dsimp only) | fail "no step"))
        refine Stopped.mk ?_
        (try ((with_reducible show wpAny _ _ _ _ _ _); k_fold))
        have F3 := (by assumption : Fr _ _ _ _)
        refine LCt.Assign_ListComp_T F3 (by rfl) (by rfl) (by with_unfolding_all rfl) (by decide) (by rfl) (by decide) (by rfl) (by rfl) (by rfl) ?_
        (repeat' (first | (k_unfold; (try dsimp only)) | (k_end; wrow_close) | ((with_reducible show wpAny _ _ (execs _ _) _ _ _); k_fold) | ((with_reducible show LCt.CompSrcT _ _ _ _ _ _ _ _ _ _ _ _ _ _ _); (refine stop_here ?_)) | ((with_reducible show wpAny _ _ (call (Value.builtin "len") _ _) _ _ _); (k_here; (show wpAny _ _ (call (Value.builtin _) [Value.ref _]) _ _ _); k_dflt (refine' rv_len ?k1u290 ?k2u290 ?k4u290 ?_; (case k1u290 => k_asm); (case k2u290 => k_mem); (case k4u290 => ((try simp only [List.length_map, List.length_append, List.length_cons, List.length_nil]); (first | assumption | exact Nat.le_trans (by assumption) (by decide) | exact Nat.lt_of_le_of_lt (by assumption) (by decide) | omega))); k_whole); intro zt9 zk9)) | walk1 | (dsimp only; first | ((with_reducible show LCt.CompSrcT _ _ _ _ _ _ _ _ _ _ _ _ _ _ _); (refine stop_here ?_)) | ((with_reducible show wpAny _ _ (call (Value.builtin "len") _ _) _ _ _); (k_here; (show wpAny _ _ (call (Value.builtin _) [Value.ref _]) _ _ _); k_dflt (refine' rv_len ?k1u292 ?k2u292 ?k4u292 ?_; (case k1u292 => k_asm); (case k2u292 => k_mem); (case k4u292 => ((try simp only [List.length_map, List.length_append, List.length_cons, List.length_nil]); (first | assumption | exact Nat.le_trans (by assumption) (by decide) | exact Nat.lt_of_le_of_lt (by assumption) (by decide) | omega))); k_whole); intro zt9 zk9)) | walk1) | ((simp only [List.cons_append, List.nil_append]); walk1) | (leave1; try dsimp only) | fail "no step"))
        refine Stopped.mk ?_
        (try ((with_reducible show wpAny _ _ _ _ _ _); k_fold))
        have F4 := (by assumption : Fr _ _ _ _)
        have N4 := (by assumption : News _ _ _ ((Dp, _) :: _))
        refine LCt.CompSrcT.range (n := pts.length - 1) rfl F4 N4 (by assumption) (rsmall1 (by decide) (by decide) (by omega) (by omega)) (by rw [rsize1]; omega) (by rw [sizeLine_eq]; omega) (fun g => ?_)
        refine compT_inv (fun i ys news => Ex2 fun (mits : List HIt) (tt : Led) => And6 (news = _ :: _ :: _ :: _ :: _ :: _ :: _ :: _ :: _ :: _ :: _ :: _ :: _ :: _ :: tt) (ys = hvals mits) ((∀ p ∈ tl, p ∈ tt)) (HIn tt mits) ((∀ p ∈ tt, ∃ vs : List Value, p.2 = tup2 vs)) (mits.map (·.2) = madeF ov (pts.map (·.1)) (hs.map (·.1)) i)) ?mturnv99 ?mfinv99 _ 0 [] _ (Nat.zero_add _) ⟨[], tl, rfl, rfl, fun _ h => h, (fun _ h => nomatch h), htl, rfl⟩
        case mturnv99 =>
          clear F4 N4
          intro i ys news v I oI C oC D m2 h tk4 E' hi HH14 HH15 hC hx F5 N5 o1 o2
          (try ((with_reducible show wpAny _ _ _ _ _ _); k_fold))
          obtain ⟨mits, tt, rfl, rfl, ht1, ht2, ht3, hmi⟩ := HH14
          obtain ⟨tv, rfl⟩ := HH15
          have e1 : (1 : Int) + (i : Int) = ((i + 1 : Nat) : Int) := by omega
          have e2 : (((i + 1 : Nat) : Int)).toNat = i + 1 := by omega
          have e3 : ((i + 1 : Nat) : Int) < pts.length := by omega
          obtain ⟨hk1, hk2⟩ := hok.2.2 (i + 1) (by omega) (by rw [← hots, List.length_map]; omega)
          have hk3 : 0 ≤ (ots.map (·.1)).getD (((i + 1 : Nat) : Int)).toNat 0 := by rw [e2, hots]; exact hk1
          have hk4 : (ots.map (·.1)).getD (((i + 1 : Nat) : Int)).toNat 0 < pts.length := by rw [e2, hots]; omega
          have hup : ((pts.map (·.1)).getD (((i + 1 : Nat) : Int)).toNat ⟨#[]⟩).length ≤ 16 := (pl_facts (hpl7 _ (getD_mem_of (by rw [List.length_map]; omega)))).2.2.2.2.2.1
          rw [e1] at hx
          (try dsimp only)
          (repeat' (first | (k_unfold; (try dsimp only)) | (k_end; wrow_close) | ((with_reducible show wpAny _ _ (execs _ _) _ _ _); k_fold) | (k_here; (with_reducible show wpAny _ _ (subscriptTail _ _ (Value.ref _) (Value.int _ _)) _ _ _); k_dflt (refine' r_strL ?k1u293 ?k2u293 ?k3u293 ?k4u293 ?k5u293 ?_ ?k6u293; (case k1u293 => k_asm); (case k2u293 => k_mem); (case k3u293 => (first | assumption | exact Nat.le_trans (by assumption) (by decide) | exact Nat.lt_of_le_of_lt (by assumption) (by decide) | omega)); (case k4u293 => (first | assumption | exact Nat.le_trans (by assumption) (by decide) | exact Nat.lt_of_le_of_lt (by assumption) (by decide) | omega)); (case k5u293 => (first | assumption | exact Nat.le_trans (by assumption) (by decide) | exact Nat.lt_of_le_of_lt (by assumption) (by decide) | omega)); (case k6u293 => with_unfolding_all rfl); k_whole); intro zt9) | (k_here; (with_reducible show wpAny _ _ (subscriptTail _ _ (Value.ref _) (Value.int _ _)) _ _ _); k_dflt (refine' r_intL ?k1u294 ?k2u294 ?k3u294 ?k4u294 ?k5u294 ?_ ?k6u294; (case k1u294 => k_asm); (case k2u294 => k_mem); (case k3u294 => (first | assumption | exact Nat.le_trans (by assumption) (by decide) | exact Nat.lt_of_le_of_lt (by assumption) (by decide) | omega)); (case k4u294 => (first | assumption | exact Nat.le_trans (by assumption) (by decide) | exact Nat.lt_of_le_of_lt (by assumption) (by decide) | omega)); (case k5u294 => (first | assumption | exact Nat.le_trans (by assumption) (by decide) | exact Nat.lt_of_le_of_lt (by assumption) (by decide) | omega)); (case k6u294 => with_unfolding_all rfl); k_whole); intro zt9) | walk1 | (dsimp only; first | (k_here; (with_reducible show wpAny _ _ (subscriptTail _ _ (Value.ref _) (Value.int _ _)) _ _ _); k_dflt (refine' r_strL ?k1u295 ?k2u295 ?k3u295 ?k4u295 ?k5u295 ?_ ?k6u295; (case k1u295 => k_asm); (case k2u295 => k_mem); (case k3u295 => (first | assumption | exact Nat.le_trans (by assumption) (by decide) | exact Nat.lt_of_le_of_lt (by assumption) (by decide) | omega)); (case k4u295 => (first | assumption | exact Nat.le_trans (by assumption) (by decide) | exact Nat.lt_of_le_of_lt (by assumption) (by decide) | omega)); (case k5u295 => (first | assumption | exact Nat.le_trans (by assumption) (by decide) | exact Nat.lt_of_le_of_lt (by assumption) (by decide) | omega)); (case k6u295 => with_unfolding_all rfl); k_whole); intro zt9) | (k_here; (with_reducible show wpAny _ _ (subscriptTail _ _ (Value.ref _) (Value.int _ _)) _ _ _); k_dflt (refine' r_intL ?k1u296 ?k2u296 ?k3u296 ?k4u296 ?k5u296 ?_ ?k6u296; (case k1u296 => k_asm); (case k2u296 => k_mem); (case k3u296 => (first | assumption | exact Nat.le_trans (by assumption) (by decide) | exact Nat.lt_of_le_of_lt (by assumption) (by decide) | omega)); (case k4u296 => (first | assumption | exact Nat.le_trans (by assumption) (by decide) | exact Nat.lt_of_le_of_lt (by assumption) (by decide) | omega)); (case k5u296 => (first | assumption | exact Nat.le_trans (by assumption) (by decide) | exact Nat.lt_of_le_of_lt (by assumption) (by decide) | omega)); (case k6u296 => with_unfolding_all rfl); k_whole); intro zt9) | walk1) | ((simp only [List.cons_append, List.nil_append]); walk1) | (leave1; try dsimp only) | fail "no step"))
          · have a1 := (by assumption : ((hs.map (·.1)).getD (((i + 1 : Nat) : Int)).toNat ⟨#[]⟩ == (pts.map (·.1)).getD (((i + 1 : Nat) : Int)).toNat ⟨#[]⟩) = true)
            have F6 := (by assumption : Fr _ _ _ _)
            have N6 := (by assumption : News _ _ _ ((_, tup2 [.str _ _, .str _ _]) :: (I, oI) :: _))
            obtain ⟨l1a, l1b, l1c, -⟩ := (by assumption : (@LT.lt Nat _ I _) ∧ (@LT.lt Nat _ C _) ∧ (@LT.lt Nat _ D _) ∧ _)
            rw [e2] at a1
            refine LCg.CompEnd.intro F6 N6 (_ :: _ :: _ :: _ :: _ :: _ :: _ :: _ :: _ :: _ :: _ :: _ :: _ :: _ :: (_, tup2 [.str _ _, .str _ _]) :: tt) (sub_put (l := [_, _, _, _, _, _, _, _, _, _, _, _, _, _])) (off3_put (l := [_, _, _, _, _, _, _, _, _, _, _, _, _, _]) o1 (by dsimp only; omega) (by dsimp only; omega) (by dsimp only; omega)) trivial ⟨mits ++ [(_, (_, _))], (_, tup2 [.str _ _, .str _ _]) :: tt, rfl, hvals_snoc'.symm, fun p hp => .tail _ (ht1 p hp), ht2.snoc, List.forall_mem_cons.mpr ⟨⟨_, rfl⟩, ht3⟩, ?_⟩
            rw [List.map_append, hmi, madeF_succ, if_pos a1]
            simp only [List.map_cons, List.map_nil, e2, hots]
          · have a1 := (by assumption : ((hs.map (·.1)).getD (((i + 1 : Nat) : Int)).toNat ⟨#[]⟩ == (pts.map (·.1)).getD (((i + 1 : Nat) : Int)).toNat ⟨#[]⟩) = false)
            rw [e2] at a1
            exact LCg.CompEnd.intro F5 N5 _ (fun _ h => h) o1 trivial ⟨mits, tt, rfl, rfl, ht1, ht2, ht3, by rw [madeF_succ, if_neg (by rw [a1]; exact Bool.false_ne_true), List.append_nil]; exact hmi⟩
        case mfinv99 =>
          clear F4 N4
          rintro ys news ⟨mits, tt, rfl, rfl, ht1, ht2, ht3, hmi⟩
          have hhs2 : hs.map (·.1) = (placesF ov).map (headF its 16) := by rw [hhs, ← hpts, List.map_map]; rfl
          rw [hhs2, hpts] at hqs hmi
          have hpo : pts.length - 1 = ov.length - 1 := by rw [← hovl, ← hots, List.length_map]
          rw [hpo] at hmi
          have hp1 : maxL (qs.map (·.1)) ≤ 5 + (List.take 4 ns).sum.fmod 4 := by rw [hqs, ← hroom]; exact hE.parts
          have hp2 : (qs.map (·.1)).getD (0 : Int).toNat 0 = (cutF ld room (pts.map (·.1))).load := by rw [hqs, hld, hpts]; exact hE.top
          have hql : 0 < qs.length := by have := hE.plen.1; rw [← hqs, List.length_map] at this; exact this
          have hql2 : qs.length ≤ 8 := by have := hE.plen.2; rw [← hqs, List.length_map] at this; exact this
          have hin2 : HIn tt its := hin.mono ht1 (fun _ h => h)
          (repeat' (first | (k_unfold; (try dsimp only)) | (k_end; wrow_close) | ((with_reducible show wpAny _ _ (execs _ _) _ _ _); k_fold) | ((with_reducible show wpAny _ _ (call (Value.builtin "max") _ _) _ _ _); (refine stop_here ?_)) | walk1 | (dsimp only; first | ((with_reducible show wpAny _ _ (call (Value.builtin "max") _ _) _ _ _); (refine stop_here ?_)) | walk1) | ((simp only [List.cons_append, List.nil_append]); walk1) | (leave1; try dsimp only) | fail "no step"))
          refine Stopped.mk ?_
          have F5 := (by assumption : Fr _ _ _ _)
          have N5 := (by assumption : News _ _ _ (_ :: (Dp, _) :: _))
          refine r_maxI rfl F5 N5 (.tail _ (.head _)) hql (fun h5 t5 tk5 F6 N6 => ?_)
          clear F5 N5
          (try dsimp only)
          repeat' ((with_reducible show wpAny _ _ _ _ _ _); (first | walk1))
          refine stop_here ?_
          refine Stopped.mk ?_
          rw [if_pos (decide_eq_true hp1)]
          repeat' ((with_reducible show wpAny _ _ _ _ _ _); (first | (k_here; (with_reducible show wpAny _ _ (subscriptTail _ _ (Value.ref _) (Value.int _ _)) _ _ _); k_dflt (refine' r_intL ?k1u299 ?k2u299 ?k3u299 ?k4u299 ?k5u299 ?_ ?k6u299; (case k1u299 => k_asm); (case k2u299 => k_mem); (case k3u299 => (first | assumption | exact Nat.le_trans (by assumption) (by decide) | exact Nat.lt_of_le_of_lt (by assumption) (by decide) | omega)); (case k4u299 => (first | assumption | exact Nat.le_trans (by assumption) (by decide) | exact Nat.lt_of_le_of_lt (by assumption) (by decide) | omega)); (case k5u299 => (first | assumption | exact Nat.le_trans (by assumption) (by decide) | exact Nat.lt_of_le_of_lt (by assumption) (by decide) | omega)); (case k6u299 => with_unfolding_all rfl); k_whole); intro zt9) | walk1))
          refine stop_here ?_
          refine Stopped.mk ?_
          rw [if_pos (beq_iff_eq.mpr hp2)]
          repeat' ((with_reducible show wpAny _ _ _ _ _ _); (first | (k_here; (with_reducible show wpAny _ _ (call (Value.ref 146) _ _) _ _ _); (try dsimp only); refine stop_here ?_) | walk1))
          refine Stopped.mk ?_
          have F7 := (by assumption : Fr _ _ _ _)
          have N7 := (by assumption : News _ _ _ (_ :: (Dp, _) :: _))
          refine' CallOk.useK (S4 _ yx yd yl yt its yn hdl) ?k1v99 F7 ?k3v99 N7 ?k5v99 ?kKv99 ?kdv99 ?kuv99 ?kpv99 ?h1v99 ?_
          case kpv99 => exact hat_of N7 (fun p hp => by (repeat (first | exact hp | refine List.Mem.tail _ ?_))) hin2
          case h1v99 => exact List.forall_mem_cons.mpr ⟨by k_mem, List.forall_mem_cons.mpr ⟨by k_mem, List.forall_mem_cons.mpr ⟨by k_mem, List.forall_mem_nil _⟩⟩⟩
          case k1v99 => k_asm
          case k3v99 => k_asm
          case k5v99 => k_asm
          case kKv99 => first | exact rfl | assumption
          case kdv99 => (first | exact room2 (by assumption) rfl | exact room1 (by assumption) rfl | exact room0 (by assumption) | exact blt rfl | ktr_room)
          case kuv99 => (first | exact room2 (by assumption) rfl | exact room1 (by assumption) rfl | exact room0 (by assumption) | exact blt rfl | ktr_units)
          rintro ⟨ya, yk⟩ h8 tk8 F8 N8
          simp only [List.cons_append, List.nil_append] at N8
          clear F7 N7
          (try dsimp only)
          repeat' ((with_reducible show wpAny _ _ _ _ _ _); (first | ((with_reducible show wpAny _ _ (call (Value.builtin "sorted") _ _) _ _ _); (refine stop_here ?_)) | walk1))
          refine Stopped.mk ?_
          have hcn : (its.map (·.2)).Nodup := hE.nod
          have hpm : (its.map (·.2)).Perm (mits.map (·.2)) := by rw [hmi]; exact hE.made
          have hmn : (mits.map (·.2)).Nodup := hpm.nodup_iff.mp hcn
          have hcl : its.length < 64 := Nat.lt_of_le_of_lt hE.len (by decide)
          have hml : mits.length < 64 := by
            have := hpm.length_eq
            rw [List.length_map, List.length_map] at this
            omega
          refine r_sortedKv F8 N8 (.head _) (fun h N => hat_of N (fun p hp => by (repeat (first | exact hp | refine List.Mem.tail _ ?_))) hin2) hcn hcl (fun D1 c1 h9 its1 hp1' hs1 F9 N9 l9 => ?_)
          clear F8 N8
          repeat' ((with_reducible show wpAny _ _ _ _ _ _); (first | ((with_reducible show wpAny _ _ (call (Value.builtin "sorted") _ _) _ _ _); (refine stop_here ?_)) | walk1))
          refine Stopped.mk ?_
          have F10 := (by assumption : Fr _ _ _ _)
          have N10 := (by assumption : News _ _ _ ((D1, _) :: _))
          refine r_sortedKv F10 N10 (.tail _ (.tail _ (.head _))) (fun h N => hat_of N (fun p hp => by (repeat (first | exact hp | refine List.Mem.tail _ ?_))) ht2) hmn hml (fun D2 c2 h10 its2 hp2' hs2 F11 N11 l11 => ?_)
          clear F9 N9 F10 N10
          repeat' ((with_reducible show wpAny _ _ _ _ _ _); (first | ((with_reducible show wpAny _ _ (compareOp CmpOp.Eq (Value.ref _) (Value.ref _)) _ _ _); (refine stop_here ?_)) | walk1))
          refine Stopped.mk ?_
          have N12 := (by assumption : News _ _ _ ((D2, _) :: _))
          refine r_eqKv (by (first | exact room2 (by assumption) rfl | exact room1 (by assumption) rfl | exact room0 (by assumption) | exact blt rfl | ktr_units)) (by (first | exact room2 (by assumption) rfl | exact room1 (by assumption) rfl | exact room0 (by assumption) | exact blt rfl | ktr_units)) N12 (.tail _ (.head _)) (.head _) (fun q hq => hat_of N12 (fun p hp => by (repeat (first | exact hp | refine List.Mem.tail _ ?_))) hin2 q (hp1'.mem_iff.mp hq)) (fun q hq => hat_of N12 (fun p hp => by (repeat (first | exact hp | refine List.Mem.tail _ ?_))) ht2 q (hp2'.mem_iff.mp hq)) (sorted_eq hs1 hs2 ((hp1'.map _).trans (hpm.trans (hp2'.map _).symm))) ?_
          repeat' ((with_reducible show wpAny _ _ _ _ _ _); (first | walk1))
          rw [if_pos rfl]
          repeat' ((with_reducible show wpAny _ _ _ _ _ _); (first | (k_here; (with_reducible show wpAny _ _ (call (Value.ref 90) _ _) _ _ _); (try dsimp only); refine stop_here ?_) | walk1))
          refine Stopped.mk ?_
          have F13 := (by assumption : Fr _ _ _ _)
          have N13 := (by assumption : News _ _ _ ((D2, _) :: _))
          refine' CallOk.useK (S5 _ yx yd yl yt its yn hdl.1) ?k1v99 F13 ?k3v99 N13 ?k5v99 ?kKv99 ?kdv99 ?kuv99 trivial ?h1v99 ?_
          case h1v99 => exact List.forall_mem_cons.mpr ⟨by k_mem, List.forall_mem_cons.mpr ⟨by k_mem, List.forall_mem_cons.mpr ⟨by k_mem, List.forall_mem_nil _⟩⟩⟩
          case k1v99 => k_asm
          case k3v99 => k_asm
          case k5v99 => k_asm
          case kKv99 => first | exact rfl | assumption
          case kdv99 => (first | exact room2 (by assumption) rfl | exact room1 (by assumption) rfl | exact room0 (by assumption) | exact blt rfl | ktr_room)
          case kuv99 => (first | exact room2 (by assumption) rfl | exact room1 (by assumption) rfl | exact room0 (by assumption) | exact blt rfl | ktr_units)
          intro yt2 h14 tk14 F14 N14
          simp only [List.nil_append] at N14
          clear F13 N13
          dsimp only [W.LenBack]
          refine ⟨⟨by omega, by omega⟩, ?_⟩
          (try dsimp only [W.LenBack])
          repeat' ((with_reducible show wpAny _ _ _ _ _ _); (first | walk1))
          (try dsimp only)
          have F14b := (by assumption : Fr _ _ _ _)
          have X14 := (by assumption : (Mine.main.heap_1_39 _).In _)
          refine ⟨X14.keeps F14b.keep, ?_⟩
          clear F14b X14
          (try dsimp only)
          repeat' ((with_reducible show wpAny _ _ _ _ _ _); (first | (k_here; (with_reducible show wpAny _ _ (call (Value.ref 353) _ _) _ _ _); (try dsimp only); refine stop_here ?_) | walk1))
          refine Stopped.mk ?_
          have F15 := (by assumption : Fr _ _ _ _)
          have N15 := (by assumption : News _ _ _ ((_, tup2 [.int _ _, .int _ _]) :: _))
          have hfl : 0 < (fewL ov (2 :: ls.map (·.1)) (5 + (List.take 4 ns).sum.fmod 4) (2 ^ (ov.length - 1))).length := by rw [← hroom]; exact hE.few
          refine' CallOk.useN (S6 _ yo _ ov (2 :: ls.map (·.1)) (5 + (List.take 4 ns).sum.fmod 4) _ hok hlo hfl) ?k1v99 F15 ?k3v99 N15 ?k5v99 ?kKv99 ?kdv99 ?kuv99 ?kpv99 ?_
          case kpv99 => exact ⟨ints_atE N15 (by k_mem) hots, ints_at N15 (ts := (2, _) :: ls) (by k_mem)⟩
          case k1v99 => k_asm
          case k3v99 => k_asm
          case k5v99 => k_asm
          case kKv99 => first | exact rfl | assumption
          case kdv99 => (first | exact room2 (by assumption) rfl | exact room1 (by assumption) rfl | exact room0 (by assumption) | exact blt rfl | ktr_room)
          case kuv99 => (first | exact room2 (by assumption) rfl | exact room1 (by assumption) rfl | exact room0 (by assumption) | exact blt rfl | ktr_units)
          rintro ⟨yF, ⟨qF, hqF⟩, tF, uF⟩ h16 tk16 F16 N16
          simp only [List.cons_append, List.nil_append] at N16
          clear F15 N15
          have hfe : qF = ((its.length : Int), (cutF ld room (pts.map (·.1))).load) := by rw [hld, hpts]; exact hE.best qF (by rw [hroom]; exact hqF)
          (try dsimp only)
          repeat' ((with_reducible show wpAny _ _ _ _ _ _); (first | ((with_reducible show wpAny _ _ (compareOp CmpOp.Eq (Value.ref _) (Value.ref _)) _ _ _); (refine stop_here ?_)) | walk1))
          refine Stopped.mk ?_
          have N17 := (by assumption : News _ _ _ ((yF, _) :: _))
          refine r_eqTwo (by (first | exact room2 (by assumption) rfl | exact room1 (by assumption) rfl | exact room0 (by assumption) | exact blt rfl | ktr_units)) N17 (.tail _ (.head _)) (.head _) (by rw [hfe]) (by rw [hfe]) ?_
          clear N17
          repeat' ((with_reducible show wpAny _ _ _ _ _ _); (first | walk1))
          k_unfold
          (try dsimp only)
          w_end
          refine goodW_bool (by assumption) (by assumption) (raisesW_false ?_) ?_
          · exact allW_false_nil
          · exact postW_of (by wrow_shape) (law_post _) rfl
end Mine
end
set_option maxRecDepth 100000 in
theorem PySem.Challenge.cw_il0086_01_holds : PySem.Challenge.rw_il0086_01.Holds :=
  Mine.main
