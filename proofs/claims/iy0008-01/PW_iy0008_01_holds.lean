import PyProof.Rows.All
import Wide.All
import OpenK.AllK
import Wide.FinOn
import KE.LcTurns
import KE.BytesMake
import KE.KBytesWalk
import PyProof.EnumMake
import KE.KLcTest
import Lean
import PySem.Challenge.RW_iy0008_01
set_option Elab.async false
set_option maxRecDepth 100000
set_option linter.unusedVariables false
set_option linter.unusedSimpArgs false
namespace Mine
section
open PySem PySem.W PyProof.Rows
set_option maxRecDepth 100000 in
set_option maxHeartbeats 8000000 in
noncomputable def hd : PSigma (fun T : Prop => OpenLaw.wellSaid PySem.Challenge.rw_iy0008_01 = true → T → PySem.Challenge.rw_iy0008_01.Holds) := by
  refine' ⟨_, fun said0 walk => ?P⟩
  case P =>
    w_on; refine holds_law said0 fun said => ?_
    refine' (And.intro (And.intro (?hl : _) (And.intro (?hw : _) (?hc : _))) ?main).2
    case main => k_head
    case hw => w_witness2
    case hc => exact walk
    case hl =>
      intro w
      delta openEnds fencedOpening topFrom
      rw [Fast.te4187177175401517315, Fast.te5923862056798008813, Fast.te10274390034422433532, Fast.te14364793385576792824, Fast.te1435165496053646825, Fast.te14289696077712309145, Fast.te14082659384304107361, Fast.te8920871248978507458]
      kernel_rfl
set_option maxRecDepth 100000 in
set_option maxHeartbeats 8000000 in
theorem said0 : OpenLaw.wellSaid PySem.Challenge.rw_iy0008_01 = true := by
  rw [Fast.te9446332074065402090]
  decide +kernel
end
open PySem PySem.W PySem.Calls PyProof.Rows PySem.Spec
abbrev TZ (w : World) (A : Around) (s : Shared) (Q : Bool → Shared → Prop) (E : Value → Shared → Prop) : Prop := wpAny (model PySem.Challenge.rw_iy0008_01.row.prog w) A (truthy (Value.bool true)) Q E s
example : ∀ w A s Q E, TZ w A s Q E → TZ w A s Q E := by intro w A s Q E h; w_top off; first | (walk1; fail) | exact h
section
open Lean in
def rbare (s : String) : MacroM (TSyntax `str) := if s.startsWith "@" then return Syntax.mkStrLit (toString (s.drop 1)) else Macro.throwUnsupported
open Lean in
def rkey (x : Name) (s : String) : MacroM (TSyntax `str) := do
  let p := match ← Macro.resolveGlobalName x with | (n, _) :: _ => n.getPrefix.getString! | [] => "-"
  return Syntax.mkStrLit (p ++ " " ++ (← rbare s).getString)
def LG.siteGrp : Unit := ()
theorem two_of {α : Type} {l : List α} (h : l.length = 2) : ∃ a b, l = [a, b] := by
  cases l with
  | nil => cases h
  | cons a r => cases r with
    | nil => cases h
    | cons b r => cases r with
      | nil => exact ⟨a, b, rfl⟩
      | cons c r => exact absurd (Nat.succ.inj (Nat.succ.inj h)) (Nat.succ_ne_zero _)
theorem q1 {p q : Prop} (h : p ∧ q) : p := h.1
theorem q2 {p q r : Prop} (h : q ∧ p ∧ r) : p := h.2.1
theorem q2e {p q : Prop} (h : q ∧ p) : p := h.2
theorem q3 {a b c p : Prop} (h : a ∧ b ∧ p ∧ c) : p := h.2.2.1
theorem q3e {a b p : Prop} (h : a ∧ b ∧ p) : p := h.2.2
theorem q4 {a b c d p : Prop} (h : a ∧ b ∧ c ∧ p ∧ d) : p := h.2.2.2.1
theorem q4e {a b c p : Prop} (h : a ∧ b ∧ c ∧ p) : p := h.2.2.2
theorem q5 {a b c d e p : Prop} (h : a ∧ b ∧ c ∧ d ∧ p ∧ e) : p := h.2.2.2.2.1
theorem q5e {a b c d p : Prop} (h : a ∧ b ∧ c ∧ d ∧ p) : p := h.2.2.2.2
theorem lt0 {a b n : Nat} (h : a + b < n) : a < n := Nat.lt_of_le_of_lt (Nat.le_add_right a b) h
theorem lt1 {a b c n : Nat} (h : a + c < n) (e : Nat.ble b c = true) : a + b < n := Nat.lt_of_le_of_lt (Nat.add_le_add_left (Nat.le_of_ble_eq_true e) a) h
theorem lt2 {a b c d n : Nat} (h : a + d < n) (e : Nat.ble (b + c) d = true) : a + b + c < n := by rw [Nat.add_assoc]; exact lt1 h e
theorem lt3 {a b c d f n : Nat} (h : a + f < n) (e : Nat.ble (b + c + d) f = true) : a + b + c + d < n := by rw [Nat.add_assoc a, Nat.add_assoc a]; exact lt1 h e
theorem le1 {a m n : Nat} (h : a ≤ m) (e : Nat.ble m n = true) : a ≤ n := Nat.le_trans h (Nat.le_of_ble_eq_true e)
theorem le2 {a m n : Nat} (h : a < m) (e : Nat.ble m n = true) : a ≤ n := Nat.le_trans (Nat.le_of_lt h) (Nat.le_of_ble_eq_true e)
abbrev PG : Program := PySem.Challenge.rw_iy0008_01.row.prog
abbrev Bts := List UInt8
def Keep (mod : List Addr) (h h' : Heap) : Prop := ∀ b o, b ∉ mod → h.get? b = some o → h'.get? b = some o
abbrev KeepAll (h h' : Heap) : Prop := ∀ b o, h.get? b = some o → h'.get? b = some o
theorem fr_keepAll {g h h' : Heap} {L : Addr} {m : Str → Option Value} (F : Fr g L h m) (k : KeepAll h h') : Fr g L h' m := F.keeps k
theorem news_keepAll {g h h' : Heap} {L : Addr} {news : List (Addr × Obj)} (N : News g L h news) (k : KeepAll h h') : News g L h' news :=
  fun p hp => ⟨k _ _ (N p hp).1, (N p hp).2⟩
section
variable {w : World} {A : Around} {s : Shared} {base : Heap} {K : Frag} {mg mb : Str → Option Value} {p : Program} {loose : List Str} {mean : ExcName → Option Value}
  {R : Result → Shared → Prop} {name qual : Str} {params : Arguments} {body : List Stmt} {scope : Scope} {dV kV doc pm cdv ct oc : Value} {an od : Option Addr} {osl : Array (Option Value)} {f : Addr} {args : Args} {binds : List (Str × Value)}
theorem enter_def (X : K.In s.heap) (T : Top p loose mean mg mb s.heap)
    (ho : K.lookup f = some ⟨oc, od, .func (fnOf name qual params body scope dV kV doc pm an cdv ct), osl⟩) (hcd : codeIn K cdv qual = true) (hroom : A.depth < recursionLimit)
    (hbind : BindsTo s (fnOf name qual params body scope dV kV doc pm an cdv ct) args binds) (hloc : ∀ y ∈ binds, scope.names.lookup y.1 = some .local)
    (h : ∀ L' h₁, L' = s.heap.objs.size → Fr s.heap L' h₁ (fun y => binds.reverse.lookup y) →
      wpAny (model PG w) (A.deeper (envOf qual scope L' f cdv)) (execs body (envOf qual scope L' f cdv))
        (fun fl s' => R (.ok (.ret (match fl with | .ret v => v | _ => .none))) s')
        (fun e s' => wpAny (model PG w) (A.deeper (envOf qual scope L' f cdv)) (leaving (envOf qual scope L' f cdv) e) (fun _ s'' => R (.error e) s'') (fun e' s'' => R (.error e') s'') s')
        { s with heap := h₁, toks := s.toks + binds.length })
    (hco : scope.isCoroutine = false) (hgen : scope.isGenerator = false) (hk : scope.kind = .function)
    (hcell : ∀ x ∈ scope.names, x.2 ≠ .cell) : codeAny (model PG w) A (.call (.ref f) args) R s :=
  codeAny_call_def (fd := fnOf name qual params body scope dV kV doc pm an cdv ct) (body := body) (binds := binds) hroom (X _ _ ho) rfl T.nolimit (codeRec_of X hcd) rfl hbind hcell hloc
    (fun h₁ hns hk₁ => h _ h₁ rfl ⟨hns, hk₁, Nat.le_refl _⟩) hco hgen hk
end
theorem fr_hide {h h₁ : Heap} {L : Addr} {m : Str → Option Value} (hs : List Addr) (F : Fr h L h₁ m) : Fr (hideAll h hs) L h₁ m :=
  ⟨F.ns, fun b o e => F.keep b o (of_hideAll _ e), Nat.le_trans (Nat.le_of_eq (hideAll_size _ _)) F.above⟩
theorem keep_of_hide {h h₁ : Heap} {L : Addr} {m : Str → Option Value} {hs : List Addr} (F : Fr (hideAll h hs) L h₁ m) : Keep hs h h₁ := fun b o n e => F.keep b o (hideAll_get _ e n)
end
local macro_rules | `(tactic| k_extra $s:str) => do `(tactic| first | k_extra $(← rkey `siteTag s.getString) | k_extra $(← rkey `siteGrp s.getString) | k_extra $(← rbare s.getString))
local macro_rules | `(tactic| walk_at $s:str) => do `(tactic| k_extra $(Lean.Syntax.mkStrLit ("@" ++ s.getString)))
local macro_rules | `(tactic| k_room) => `(tactic| k_extra "@k_room")
local macro_rules | `(tactic| k_units) => `(tactic| k_extra "@k_units")
local macro_rules | `(tactic| kby_size) => `(tactic| k_extra "@kby_size")
local macro_rules | `(tactic| ktr_rel) => `(tactic| k_extra "@ktr_rel")
local macro_rules | `(tactic| ktr_unf) => `(tactic| k_extra "@ktr_unf")
local macro_rules | `(tactic| k_updF) => `(tactic| k_extra "@k_updF")
local macro_rules | `(tactic| omega) => `(tactic| k_extra "omega")
example : True := by
  k_with "qs" => (first | with_reducible assumption | exact q1 (by with_reducible assumption) | exact q2 (by with_reducible assumption) | exact q2e (by with_reducible assumption) | exact q3 (by with_reducible assumption) | exact q3e (by with_reducible assumption) | exact q4 (by with_reducible assumption) | exact q4e (by with_reducible assumption) | exact q5 (by with_reducible assumption) | exact q5e (by with_reducible assumption))
  k_with "omega" => first
    | (with_reducible show @LT.lt Nat _ _ _; first
      | exact lt0 (by with_reducible assumption)
      | (with_reducible refine' lt1 ?h ?e; (case h => with_reducible assumption); (case e => exact rfl))
      | (with_reducible refine' lt2 ?h ?e; (case h => with_reducible assumption); (case e => exact rfl))
      | (with_reducible refine' lt3 ?h ?e; (case h => with_reducible assumption); (case e => exact rfl))
      | k_extra "qs")
    | (with_reducible show @LE.le Nat _ _ _; first
      | (with_reducible refine' le1 ?h ?e; (case h => with_reducible assumption); (case e => exact rfl))
      | (with_reducible refine' le2 ?h ?e; (case h => with_reducible assumption); (case e => exact rfl)))
    | (with_reducible show @Ne Nat _ _; first
      | k_extra "qs"
      | (with_reducible refine Ne.symm ?_; k_extra "qs")
      | (with_reducible refine Nat.ne_of_lt ?_; k_extra "qs")
      | (with_reducible refine Nat.ne_of_gt ?_; k_extra "qs"))
  k_with "k_room" => first | (first | (refine' lt2 ?h ?e; (case h => with_reducible assumption); (case e => exact rfl)) | (refine' lt3 ?h ?e; (case h => with_reducible assumption); (case e => exact rfl))) | ((try simp only [depth_mark, depth_under_make, depth_under_kw, depth_in1, depth_deeper]); omega)
  k_with "k_units" => first | (first | (refine' lt2 ?h ?e; (case h => with_reducible assumption); (case e => exact rfl)) | (refine' lt3 ?h ?e; (case h => with_reducible assumption); (case e => exact rfl))) | ((try simp only [units_in1, units_deeper, Around.mark_units, Around.in1_units, Around.deeper_units]); omega)
  k_with "kby_size" => (first | assumption | decide | ((try simp only [List.length_append, List.length_drop, List.length_take, List.length_cons, List.length_nil]); omega))
  k_with "getMethod bytes" => (with_reducible first | refine BF.method FB.slot_bytes_startswith FB.type_bytes_startswith ?_ | refine BF.method FB.slot_bytes_endswith FB.type_bytes_endswith ?_ | refine BF.method BF.slot_split BF.type_split ?_ | refine BF.method BF.slot_strip BF.type_strip ?_ | refine BF.method BF.slot_rstrip BF.type_rstrip ?_ | refine BF.method BF.slot_join BF.type_join ?_)
  k_with "call builtin:bytes.startswith" => (refine call_starts ?_)
  k_with "call builtin:bytes.endswith" => (refine call_ends ?_)
  k_with "call builtin:bytes.rstrip" => (refine call_rstrip (by kby_size) ?_; intro _ _)
  k_with "call builtin:bytes.strip" => (refine call_strip (by kby_size) ?_; intro _ _)
  k_with "call builtin:len" => ((with_reducible show wpAny _ _ (call (Value.builtin "len") [Value.bytes _ _]) _ _ _); refine len_L (by kby_size) ?_; intro _ _)
  k_with "truthy bytes" => (refine truthy_L (by kby_size) ?_; intro _)
  k_with "binaryOp Add bytes bytes" => (refine add_L (by kby_size) ?_; intro _ _)
  k_with "compareOp Eq bytes bytes" => (refine eq_L ?_)
  k_with "compareOp NotEq bytes bytes" => (refine ne_L ?_)
  k_with "compareOp In bytes bytes" => (refine in_sub (by k_asm) ?_; intro h' tk' kk'; (have F' := fr_keepAll (by k_asm) kk'); (have N' := news_keepAll (by k_asm) kk'); (try k_sweep))
  k_with "compareOp NotIn bytes bytes" => (refine notIn_sub (by k_asm) ?_; intro h' tk' kk'; (have F' := fr_keepAll (by k_asm) kk'); (have N' := news_keepAll (by k_asm) kk'); (try k_sweep))
  k_with "subscriptTail" => ((with_reducible show wpAny _ _ (subscriptTail _ _ (Value.bytes _ _) (Value.int _ _)) _ _ _); (refine item_L (by kby_size) (by kby_idx) (by kby_idx) ?_); intro _ _)
  k_with "subscriptTail" => ((with_reducible show wpAny _ _ (subscriptTail _ (Expr.Slice _ _ none _) (Value.bytes _ _) (Value.ref _)) _ _ _); (with_reducible rename Fr _ _ _ _ => F'); (with_reducible rename News _ _ _ _ => N'); (first | (refine slice_RPc (s := ⟨_, _, _, _, _⟩) F' N' (by kby_size) ?_) | (refine slice_RP (s := ⟨_, _, _, _, _⟩) F' N' (by kby_size) ?_) | (refine slice_L (s := ⟨_, _, _, _, _⟩) F' N' (by constructor) (by constructor) (by kby_size) ?_)); intro _ _ _ F' N'; (try k_sweep))
  k_with "exec Raise some none" => ((with_reducible show wpAny _ _ (exec (Stmt.Raise (some (Expr.Call (Expr.Name (Str.ofString "ValueError") _) (_ :: _) [] _)) none _) _) _ _ _); k_dflt (refine' raise_VE ?rF ?rX ?rT ?rh ?re ?_ ?r1 ?r2 ?r3 ?r4; (case rF => k_asm); (case rX => k_asm); (case rT => k_asm); (case rh => first | rfl | assumption); (case re => k_is); (case r1 => rfl); (case r2 => rfl); (case r3 => rfl); (case r4 => rfl); k_whole))
  k_with "kby_size" => (refine Nat.le_trans (sliceB_le _ _ _) ?_; kby_size)
  k_with "kby_size" => (first | assumption | decide | ((try simp only [List.length_append, List.length_drop, List.length_take, List.length_cons, List.length_nil]); omega))
  k_with "getMethod ref" => (k_here; k_dflt (first
  | (refine' bmeth PySem.F.slot_dict_get PySem.F.type_dict_get ?bN ?bp ?bB ?_; (case bN => k_asm); (case bp => k_mem); (case bB => with_reducible assumption); k_whole)
  | (refine' bmeth PySem.F.slot_dict_pop PySem.F.type_dict_pop ?bN ?bp ?bB ?_; (case bN => k_asm); (case bp => k_mem); (case bB => with_reducible assumption); k_whole)
  | (refine' bmeth PySem.F.slot_dict_keys PySem.F.type_dict_keys ?bN ?bp ?bB ?_; (case bN => k_asm); (case bp => k_mem); (case bB => with_reducible assumption); k_whole)))
  k_with "call builtin:dict.get" => (k_here; (with_reducible show wpAny _ _ (call (Value.builtin _) [Value.ref _, Value.bytes _ _, _]) _ _ _); k_dflt (refine' bget2 ?bN ?bp ?bB ?lo ?_ ?_; (case bN => k_asm); (case bp => k_mem); (case bB => with_reducible assumption); (case lo => with_reducible assumption); k_whole); (case' _ => skip); (first | intro v' t' hgv' | skip))
  k_with "ktr_rel" => (exact refs_keep (by with_reducible assumption) (by with_reducible assumption) (by k_mem) (by k_mem) (by k_mem) (by with_reducible assumption) (by with_reducible assumption) (by with_reducible assumption))
  k_with "ktr_unf" => (exact refs_at2 (by with_reducible assumption) (by with_reducible assumption) (by with_reducible assumption) (by with_reducible assumption) (by k_mem) (by k_mem) (by k_mem) (by with_reducible assumption) (by with_reducible assumption))
  k_with "truthy bytes" => (refine truthy_N (by rfl) (by kby_size) ?_; intro _)
  k_with "call builtin:bytes.startswith" => (refine call_starts_y (by with_unfolding_all rfl) ?_)
  k_with "kby_size" => (exact vals_len (by k_asm) (by k_asm))
  k_with "kby_size" => (exact len_drop (vals_len (by k_asm) (by k_asm)))
  k_with "truthy bytes" => (refine truthy_V (by k_asm) (by k_asm) ?_; intro _)
  k_with "exec While BoolOp" => (refine whl_stop ?_)
  k_with "WhlPost" => (with_reducible first | refine post_next ?_ | refine post_cont ?_)
  k_with "exec Raise some none" => ((with_reducible show wpAny _ _ (exec (Stmt.Raise (some (Expr.Call (Expr.Name (Str.ofString "SymrefLoop") _) (_ :: _) [] _)) none _) _) _ _ _); k_dflt (refine' raise_loop ?rX ?rT ?rb ?rF ?rr ?ru ?rh ?re ?_ ?r1 ?r2 ?r3 ?r4; (case rF => k_asm); (case rb => k_asm); (case rX => k_asm); (case rT => k_asm); (case rr => k_room); (case ru => k_units); (case rh => first | rfl | assumption); (case re => k_is); (case r1 => rfl); (case r2 => rfl); (case r3 => rfl); (case r4 => rfl); k_whole))
  k_with "exec Raise some none" => ((with_reducible show wpAny _ _ (exec (Stmt.Raise (some (Expr.Call (Expr.Name (Str.ofString "KeyError") _) [_] [] _)) none _) _) _ _ _); refine Raise_new (by first | rfl | assumption) ?_)
  k_with "assign Tuple" => (k_here; (with_reducible show wpAny _ _ (assign (Expr.Tuple _ _ _) _ (Value.ref _)) _ _ _); k_dflt (refine' unpackN_ ?F ?N ?T ?k1 ?k2 ?k3 ?_; (case F => k_asm); (case N => k_asm); (case T => exact News.isTup (by k_asm) (by k_mem)); (case k1 => k_asm); (case k2 => exact rfl); (case k3 => exact rfl)); intro h' F' N'; (try k_sweep))
  k_with "setItem ref" => (k_here; k_dflt (refine' bset ?bF ?bN ?bU ?bB ?bz ?_; (case bF => k_asm); (case bN => k_asm); (case bU => k_updF); (case bB => with_reducible assumption); (case bz => kby_size); k_whole); intro h' o' F' N' hB'; (try dsimp only at N'); (try k_sweep))
  k_with "compareOp In bytes ref" => (k_here; k_dflt (refine' bin ?bN ?bp ?bB ?lo ?_; (case bN => k_asm); (case bp => k_mem); (case bB => with_reducible assumption); (case lo => with_reducible assumption); k_whole))
  k_with "call builtin:dict.get" => (k_here; (with_reducible show wpAny _ _ (call (Value.builtin _) [Value.ref _, Value.bytes _ _]) _ _ _); k_dflt (refine' bget1 ?bN ?bp ?bB ?lo ?_ ?_; (case bN => k_asm); (case bp => k_mem); (case bB => with_reducible assumption); (case lo => with_reducible assumption); k_whole); (case' _ => skip); (first | intro v' t' hgv' | skip))
  k_with "call builtin:dict.pop" => (k_here; first
  | k_dflt (refine' bpop_none ?bh ?bF ?bN ?bp ?bB ?lo ?hl ?_; (case bh => k_asm); (case bF => k_asm); (case bN => k_asm); (case bp => k_mem); (case bB => with_reducible assumption); (case lo => with_reducible assumption); (case hl => k_asm); k_whole; intro h' e' nx')
  | (k_dflt (refine' bpop ?bF ?bN ?bU ?bB ?bz ?hl ?_; (case bF => k_asm); (case bN => k_asm); (case bU => k_updF); (case bB => with_reducible assumption); (case bz => kby_size); (case hl => k_asm); k_whole); intro h' o' v' F' N' hB'; (try dsimp only at N'); (try k_sweep)))
  k_with "call builtin:dict.get" => (k_here; (with_reducible show wpAny _ _ (call (Value.builtin _) [Value.ref _, Value.bytes _ _, Value.bytes _ _]) _ _ _); k_dflt (refine' bgetD ?bN ?bp ?bB ?lo ?_; (case bN => k_asm); (case bp => k_mem); (case bB => with_reducible assumption); (case lo => with_reducible assumption); k_whole); intro t')
  k_with "LG ktr_rel" => (exact dict_keep (by k_asm) (by k_asm) (by k_mem) (by k_asm))
  k_with "LG subscriptTail" => (k_here; (with_reducible show wpAny _ _ (subscriptTail _ _ (Value.ref _) (Value.int _ _)) _ _ _); k_dflt (refine' item_B (News.isList (by k_asm) (by k_mem)) (by k_asm) ?i0 ?i1 ?ip ?_; (case i0 => first | decide | omega); (case i1 => first | decide | omega); (case ip => first | assumption | rfl)); intro t')
  k_with "LG subscriptTail" => (k_here; (with_reducible show wpAny _ _ (subscriptTail _ (Expr.Slice _ none none _) (Value.ref _) (Value.ref _)) _ _ _); (with_reducible rename Fr _ _ _ _ => F'); (with_reducible rename News _ _ _ _ => N'); k_dflt (refine' slice_B (s := ⟨_, _, _, _, _⟩) F' N' (News.isList (by k_asm) (by k_mem)) (by k_asm) (by decide) (by decide) ?_); intro D' ws' h' F' N' hb' l1; (try k_lt l1); (try k_sweep))
  k_with "LG compareOp In bytes ref" => (k_here; k_dflt (refine' in_B (News.isList (by k_asm) (by k_mem)) (by k_asm) ?_))
  k_with "LG k_updF" => (first | exact updS (by k_asm) | exact updFr (by k_asm) | exact updG (by k_asm) | exact updO (by k_asm) | exact updH (by k_asm) | exact updD (by k_asm))
  k_with "LG subscriptTail" => (k_here; (with_reducible show wpAny _ _ (subscriptTail _ _ (Value.ref _) (Value.int _ _)) _ _ _); (refine' item_Bm (News.isList (by k_asm) (by k_mem)) (by k_asm) ?i0 ?i1 ?iz ?_; (case i0 => exact fm_nn (by decide)); (case i1 => exact Int.lt_of_lt_of_le (fm_lt (by decide)) (by decide)); (case iz => decide)); intro p' t' hp'; (with_reducible rename News _ _ _ ((_, W.listOf _ _) :: _) => N9'); (have N' := news_drop N9'); clear N9'; (try k_sweep))
  k_with "LG subscriptTail" => (k_here; (with_reducible show wpAny _ _ (subscriptTail _ _ (Value.ref _) (Value.int _ _)) _ _ _); (refine' item_Om (News.isList (by k_asm) (by k_mem)) (by k_asm) ?i0 ?i1 ?iz ?_; (case i0 => exact fm_nn (by decide)); (case i1 => exact Int.lt_of_lt_of_le (fm_lt (by decide)) (by decide)); (case iz => decide)); intro o' v' ho' hr'; (with_reducible rename News _ _ _ ((_, W.listOf _ _) :: _) => N9'); (have N' := news_drop N9'); clear N9'; (try k_sweep))
  k_with "LG subscriptTail" => (k_here; (with_reducible show wpAny _ _ (subscriptTail _ _ (Value.ref _) (Value.int _ _)) _ _ _); k_dflt (refine' item_B (News.isList (by k_asm) (by k_mem)) (by k_asm) ?i0 ?i1 ?ip ?_; (case i0 => decide); (case i1 => decide); (case ip => rfl)); intro t'; (with_reducible rename News _ _ _ ((_, W.listOf _ _) :: _) => N9'); (have N' := news_drop N9'); clear N9'; (try k_sweep))
  k_with "LG storeName" => (k_here; (rename Fr _ _ _ _ => F'); (rename News _ _ _ _ => N'); (with_unfolding_all refine stLocN F' N' ?_); intro h' F' N'; (try dsimp only at F'); (try k_sweep))
  k_with "LG storeName" => (k_here; k_dflt (refine' store_C ?F ?N ?U ?d ?_ ?c ?a ?b; (case a => rfl); (case b => rfl); (case c => rfl); (case F => k_asm); (case N => k_asm); (case U => k_updF); (case d => k_asm)); intro h' o' F' N' d'; (try dsimp only at F'); (try dsimp only at N'); (try k_sweep))
  k_with "LG eval Name" => (k_here; k_dflt (refine' load_C ?N ?m ?d ?_ ?c ?a ?b ?e; (case a => rfl); (case b => rfl); (case c => rfl); (case N => k_asm); (case m => k_mem); (case d => k_asm); (case e => decide)))
  k_with "LG exec For Name Subscript cons nil" => (refine for_free ?_)
  k_with "LG pyIter ref" => (refine iter_stop2 ?_)
  k_with "LG call ref" => (k_here; (try dsimp only [List.nil_append, List.cons_append, List.append_nil]); (with_reducible show wpAny _ _ (call (Value.ref 346) _) _ _ _); refine iter_stopF ?_)
  k_with "LG call ref" => (k_here; (try dsimp only [List.nil_append, List.cons_append, List.append_nil]); (with_reducible show wpAny _ _ (call (Value.ref 332) _) _ _ _); refine iter_stopF ?_)
  k_with "LG call ref" => (k_here; (try dsimp only [List.nil_append, List.cons_append, List.append_nil]); (with_reducible show wpAny _ _ (call (Value.ref 325) _) _ _ _); refine iter_stopF ?_)
  k_with "LG call ref" => (k_here; (try dsimp only [List.nil_append, List.cons_append, List.append_nil]); (with_reducible show wpAny _ _ (call (Value.ref 250) _) _ _ _); refine iter_stopF ?_)
  k_with "LG call ref" => (k_here; (try dsimp only [List.nil_append, List.cons_append, List.append_nil]); (with_reducible show wpAny _ _ (call (Value.ref 180) _) _ _ _); refine iter_stopF ?_)
  k_with "LG call ref" => (k_here; (try dsimp only [List.nil_append, List.cons_append, List.append_nil]); (with_reducible show wpAny _ _ (call (Value.ref 159) _) _ _ _); refine iter_stopF ?_)
  k_with "LG call ref" => (k_here; (try dsimp only [List.nil_append, List.cons_append, List.append_nil]); (with_reducible show wpAny _ _ (call (Value.ref 173) _) _ _ _); refine iter_stopF ?_)
  k_with "LG call ref" => (k_here; (try dsimp only [List.nil_append, List.cons_append, List.append_nil]); (with_reducible show wpAny _ _ (call (Value.ref 194) _) _ _ _); refine iter_stopF ?_)
  k_with "LG call ref" => (k_here; (try dsimp only [List.nil_append, List.cons_append, List.append_nil]); (with_reducible show wpAny _ _ (call (Value.ref 187) _) _ _ _); refine iter_stopF ?_)
  k_with "LG call ref" => (k_here; (try dsimp only [List.nil_append, List.cons_append, List.append_nil]); (with_reducible show wpAny _ _ (call (Value.ref 123) _) _ _ _); refine iter_stopF ?_)
  k_with "LG call ref" => (k_here; (try dsimp only [List.nil_append, List.cons_append, List.append_nil]); (with_reducible show wpAny _ _ (call (Value.ref 138) _) _ _ _); refine iter_stopF ?_)
  k_with "LG call ref" => (k_here; (try dsimp only [List.nil_append, List.cons_append, List.append_nil]); (with_reducible show wpAny _ _ (call (Value.ref 201) _) _ _ _); refine iter_stopF ?_)
  k_with "LG eval Lambda" => (k_here; refine iter_stopF ?_)
  trivial
example : ∀ w A s Q E, TZ w A s Q E → TZ w A s Q E := by intro w A s Q E h; w_top off; first | (walk1; fail) | exact h
section
namespace BF
theorem slot_split : Slot "bytes" "split" "bytes.split" :=
  .of (owner := "bytes") (n := "split") (by rw [typeLookup_type, builtinLookup_eq_fast]; kernel_rfl) (by decide +kernel) (by decide +kernel) (by decide +kernel)
    (by first | exact .inl (by decide +kernel) | exact .inr (by decide +kernel)) (by rw [isSubtype_type]; kernel_rfl)
theorem type_split : typeOf (.builtin "bytes.split") = pure (.type "method_descriptor") := by show builtinType _ = _; rw [builtinType_eq_fast]; kernel_rfl
theorem entry_split : entryFor table "bytes.split" = some Builtin.«bytes.split» := entryFor_of_tree (by kernel_rfl)
theorem args_split (a b : Value) : argsOk "bytes.split" ⟨[a, b], []⟩ := by unfold argsOk; kernel_rfl
theorem slot_strip : Slot "bytes" "strip" "bytes.strip" :=
  .of (owner := "bytes") (n := "strip") (by rw [typeLookup_type, builtinLookup_eq_fast]; kernel_rfl) (by decide +kernel) (by decide +kernel) (by decide +kernel)
    (by first | exact .inl (by decide +kernel) | exact .inr (by decide +kernel)) (by rw [isSubtype_type]; kernel_rfl)
theorem type_strip : typeOf (.builtin "bytes.strip") = pure (.type "method_descriptor") := by show builtinType _ = _; rw [builtinType_eq_fast]; kernel_rfl
theorem entry_strip : entryFor table "bytes.strip" = some Builtin.«bytes.strip» := entryFor_of_tree (by kernel_rfl)
theorem args_strip (a b : Value) : argsOk "bytes.strip" ⟨[a, b], []⟩ := by unfold argsOk; kernel_rfl
theorem slot_rstrip : Slot "bytes" "rstrip" "bytes.rstrip" :=
  .of (owner := "bytes") (n := "rstrip") (by rw [typeLookup_type, builtinLookup_eq_fast]; kernel_rfl) (by decide +kernel) (by decide +kernel) (by decide +kernel)
    (by first | exact .inl (by decide +kernel) | exact .inr (by decide +kernel)) (by rw [isSubtype_type]; kernel_rfl)
theorem type_rstrip : typeOf (.builtin "bytes.rstrip") = pure (.type "method_descriptor") := by show builtinType _ = _; rw [builtinType_eq_fast]; kernel_rfl
theorem entry_rstrip : entryFor table "bytes.rstrip" = some Builtin.«bytes.rstrip» := entryFor_of_tree (by kernel_rfl)
theorem args_rstrip (a b : Value) : argsOk "bytes.rstrip" ⟨[a, b], []⟩ := by unfold argsOk; kernel_rfl
theorem slot_join : Slot "bytes" "join" "bytes.join" :=
  .of (owner := "bytes") (n := "join") (by rw [typeLookup_type, builtinLookup_eq_fast]; kernel_rfl) (by decide +kernel) (by decide +kernel) (by decide +kernel)
    (by first | exact .inl (by decide +kernel) | exact .inr (by decide +kernel)) (by rw [isSubtype_type]; kernel_rfl)
theorem type_join : typeOf (.builtin "bytes.join") = pure (.type "method_descriptor") := by show builtinType _ = _; rw [builtinType_eq_fast]; kernel_rfl
theorem entry_join : entryFor table "bytes.join" = some Builtin.«bytes.join» := entryFor_of_tree (by kernel_rfl)
theorem args_join (a b : Value) : argsOk "bytes.join" ⟨[a, b], []⟩ := by unfold argsOk; kernel_rfl
theorem sub_bytes_tuple : isSubtype (.type "bytes") (.type "tuple") = pure false := by rw [isSubtype_type]; kernel_rfl
theorem noIndexB : typeLookup (.type "bytes") "__index__" = pure none := by rw [typeLookup_type, builtinLookup_eq_fast]; kernel_rfl
theorem noRef {s : Shared} {b : Array UInt8} {t : Tok} : ∀ a, Value.bytes b t = .ref a → ∃ o, s.heap.get? a = some o ∧ o.dict = none := fun _ e => nomatch e
theorem method {M : Model} {A : Around} {E : Value → Shared → Prop} {s : Shared} {b : Array UInt8} {t : Tok} {pl : Sem Bool} {Q : Value × List Value → Shared → Prop} {name : Str} {id : String} (slot : Slot "bytes" name id) (ty : typeOf (.builtin id) = pure (.type "method_descriptor"))
    (h : Q (.builtin id, [.bytes b t]) s) : wpAny M A (getMethod (.bytes b t) name pl) Q E s := getMethod_builtin (typeIs_bytes _ _ _) FB.plainAttrs_bytes slot ty noRef h
end BF
end
example : ∀ w A s Q E, TZ w A s Q E → TZ w A s Q E := by intro w A s Q E h; w_top off; first | (walk1; fail) | exact h
section
section
variable {b c : Bts} {t u : Tok}
theorem bytesLike_eq {id : String} {b : Array UInt8} : Builtin.Bytes.bytesLike id (.bytes b t) = pure b := by
  unfold Builtin.Bytes.bytesLike
  rw [KBy.buffer_eq]
  rfl
theorem prefix_eq (b c : Bts) : (if (b.length : Int) - 0 < c.length then false else (b.toArray.extract 0 (0 + c.length) == c.toArray)) = c.isPrefixOf b := by
  by_cases h : (b.length : Int) - 0 < c.length
  · rw [if_pos h]
    symm
    rw [Bool.eq_false_iff]
    intro hp
    have := (List.isPrefixOf_iff_prefix.mp hp).length_le
    omega
  · rw [if_neg h]
    have e : b.toArray.extract 0 (0 + c.length) = (b.take c.length).toArray := by simp
    rw [e, Bool.eq_iff_iff]
    simp only [beq_iff_eq, List.isPrefixOf_iff_prefix, List.prefix_iff_eq_take]
    constructor
    · intro q; exact (List.toArray_inj q).symm
    · intro q; rw [← q]
theorem suffix_eq (b c : Bts) : (if (b.length : Int) - 0 < c.length then false else (b.toArray.extract (b.length - c.length) b.length == c.toArray)) = c.isSuffixOf b := by
  by_cases h : (b.length : Int) - 0 < c.length
  · rw [if_pos h]
    symm
    rw [Bool.eq_false_iff]
    intro hp
    have := (List.isSuffixOf_iff_suffix.mp hp).length_le
    omega
  · rw [if_neg h]
    have e : b.toArray.extract (b.length - c.length) b.length = (b.drop (b.length - c.length)).toArray := by
      simp only [List.extract_toArray, List.extract_eq_take_drop]
      rw [List.take_of_length_le (by simp)]
    rw [e, Bool.eq_iff_iff]
    simp only [beq_iff_eq, List.isSuffixOf_iff_suffix, List.suffix_iff_eq_drop]
    constructor
    · intro q; exact (List.toArray_inj q).symm
    · intro q; rw [← q]
theorem win_eq (n : Nat) : min (n : Int) (if (n : Int) < 0 then max 0 ((n : Int) + (n : Int)) else (n : Int)) = n := by
  rw [if_neg (by omega)]; omega
theorem gives_starts : Gives (Builtin.«bytes.startswith» ⟨[.bytes b.toArray t, .bytes c.toArray u], []⟩) (.val (.bool (c.isPrefixOf b))) := by
  refine .of_wp fun M A E s Q hq => ?_
  show wpAny M A (isInstance (.bytes c.toArray u) (.type "tuple") >>= fun r => _) _ E s
  refine wpAny_bind (wpAny_isInstance (typeIs_bytes s _ u) BF.sub_bytes_tuple ?_)
  show wpAny M A (Builtin.Bytes.buffer? "bytes.startswith" (.bytes c.toArray u) >>= fun r => _) _ E s
  refine wpAny_bind (wpAny_of_eq KBy.buffer_eq ?_)
  refine wpAny_pure ⟨_, rfl, ?_⟩
  refine Eq.mp (congrArg (fun x => Q (.bool x) s) ?_) hq
  rw [← prefix_eq]
  simp [win_eq]
theorem gives_ends : Gives (Builtin.«bytes.endswith» ⟨[.bytes b.toArray t, .bytes c.toArray u], []⟩) (.val (.bool (c.isSuffixOf b))) := by
  refine .of_wp fun M A E s Q hq => ?_
  show wpAny M A (isInstance (.bytes c.toArray u) (.type "tuple") >>= fun r => _) _ E s
  refine wpAny_bind (wpAny_isInstance (typeIs_bytes s _ u) BF.sub_bytes_tuple ?_)
  show wpAny M A (Builtin.Bytes.buffer? "bytes.endswith" (.bytes c.toArray u) >>= fun r => _) _ E s
  refine wpAny_bind (wpAny_of_eq KBy.buffer_eq ?_)
  refine wpAny_pure ⟨_, rfl, ?_⟩
  refine Eq.mp (congrArg (fun x => Q (.bool x) s) ?_) hq
  rw [← suffix_eq]
  simp [win_eq]
theorem containsF (c : Bts) : c.toArray.contains = c.contains := by funext x; simp
noncomputable def rstripB (b c : Bts) : Bts := (b.reverse.dropWhile c.contains).reverse
theorem rstripB_len (b c : Bts) : (rstripB b c).length ≤ b.length := by
  unfold rstripB
  rw [List.length_reverse]
  have := (List.dropWhile_sublist (l := b.reverse) c.contains).length_le
  rwa [List.length_reverse] at this
theorem rstripB_same {b c : Bts} (h : (rstripB b c).length = b.length) : rstripB b c = b := by
  unfold rstripB at h ⊢
  rw [List.length_reverse] at h
  have := (List.dropWhile_sublist (l := b.reverse) c.contains).eq_of_length (by rw [h, List.length_reverse])
  rw [this, List.reverse_reverse]
theorem gives_rstrip (hb : b.length ≤ 16777216) {Q : Value → Shared → Prop} {s : Shared} {M : Model} {A : Around} {E : Value → Shared → Prop} (hq : ∀ t' k, Q (.bytes (rstripB b c).toArray t') { s with toks := k }) :
    wpAny M A (Builtin.«bytes.rstrip» ⟨[.bytes b.toArray t, .bytes c.toArray u], []⟩) (fun fin s' => ∃ v, fin = .done (.ret v) ∧ Q v s') E s := by
  unfold Builtin.«bytes.rstrip» Builtin.Bytes.stripM
  show wpAny M A (Builtin.Bytes.bytesLike "bytes.rstrip" (.bytes c.toArray u) >>= fun r => _) _ E s
  refine wpAny_bind (wpAny_of_eq bytesLike_eq (wpAny_bind (wpAny_pure (wpAny_bind (wpAny_of_eq (a := b.toArray) rfl ?_)))))
  have e : ((b.toArray.toList.reverse.dropWhile c.toArray.contains).reverse) = rstripB b c := by simp [rstripB, containsF]
  simp only [if_true, Bool.false_eq_true, if_false]
  rw [e]
  split
  · rename_i h
    have h' : (rstripB b c).length = b.length := by simpa using h
    refine wpAny_bind (wpAny_rule ?_)
    refine wpAny_bind (wpAny_of_eq (a := Value.bytes b.toArray t) rfl ?_)
    refine wpAny_pure ⟨_, rfl, ?_⟩
    have := hq t s.toks
    rwa [rstripB_same h'] at this
  · refine wpAny_bind (wpAny_mkBytes (wpAny_pure ⟨_, rfl, hq _ _⟩) ?_)
    rw [sizeLine_eq]
    have := rstripB_len b c
    simp; omega
noncomputable def stripB (b c : Bts) : Bts := rstripB (b.dropWhile c.contains) c
theorem stripB_len (b c : Bts) : (stripB b c).length ≤ b.length :=
  Nat.le_trans (rstripB_len _ _) (List.dropWhile_sublist _).length_le
theorem stripB_same {b c : Bts} (h : (stripB b c).length = b.length) : stripB b c = b := by
  unfold stripB at h ⊢
  have h1 := rstripB_len (b.dropWhile c.contains) c
  have h2 := (List.dropWhile_sublist (l := b) c.contains).length_le
  have e := (List.dropWhile_sublist (l := b) c.contains).eq_of_length (by omega)
  rw [e] at h ⊢
  exact rstripB_same h
theorem gives_strip (hb : b.length ≤ 16777216) {Q : Value → Shared → Prop} {s : Shared} {M : Model} {A : Around} {E : Value → Shared → Prop} (hq : ∀ t' k, Q (.bytes (stripB b c).toArray t') { s with toks := k }) :
    wpAny M A (Builtin.«bytes.strip» ⟨[.bytes b.toArray t, .bytes c.toArray u], []⟩) (fun fin s' => ∃ v, fin = .done (.ret v) ∧ Q v s') E s := by
  unfold Builtin.«bytes.strip» Builtin.Bytes.stripM
  show wpAny M A (Builtin.Bytes.bytesLike "bytes.strip" (.bytes c.toArray u) >>= fun r => _) _ E s
  refine wpAny_bind (wpAny_of_eq bytesLike_eq (wpAny_bind (wpAny_pure (wpAny_bind (wpAny_of_eq (a := b.toArray) rfl ?_)))))
  have e : (((b.toArray.toList.dropWhile c.toArray.contains).reverse.dropWhile c.toArray.contains).reverse) = stripB b c := by simp [rstripB, stripB, containsF]
  simp only [if_true]
  rw [e]
  split
  · rename_i h
    have h' : (stripB b c).length = b.length := by simpa using h
    refine wpAny_bind (wpAny_rule ?_)
    refine wpAny_bind (wpAny_of_eq (a := Value.bytes b.toArray t) rfl ?_)
    refine wpAny_pure ⟨_, rfl, ?_⟩
    have := hq t s.toks
    rwa [stripB_same h'] at this
  · refine wpAny_bind (wpAny_mkBytes (wpAny_pure ⟨_, rfl, hq _ _⟩) ?_)
    rw [sizeLine_eq]
    have := stripB_len b c
    simp; omega
end
section
variable {w : World} {A : Around} {E : Value → Shared → Prop} {s : Shared} {b c : Bts} {t u : Tok} {Q : Value → Shared → Prop}
theorem call_starts (h : Q (.bool (c.isPrefixOf b)) s) : wpAny (model PG w) A (call (.builtin "bytes.startswith") [.bytes b.toArray t, .bytes c.toArray u]) Q E s :=
  call_gives FB.slot_bytes_startswith (typeIs_bytes _ _ _) FB.entry_bytes_startswith (FB.args_bytes_startswith_2 _ _) gives_starts h
theorem call_ends (h : Q (.bool (c.isSuffixOf b)) s) : wpAny (model PG w) A (call (.builtin "bytes.endswith") [.bytes b.toArray t, .bytes c.toArray u]) Q E s :=
  call_gives FB.slot_bytes_endswith (typeIs_bytes _ _ _) FB.entry_bytes_endswith (FB.args_bytes_endswith_2 _ _) gives_ends h
theorem call_rstrip (hb : b.length ≤ 16777216) (hq : ∀ t' k, Q (.bytes (rstripB b c).toArray t') { s with toks := k }) : wpAny (model PG w) A (call (.builtin "bytes.rstrip") [.bytes b.toArray t, .bytes c.toArray u]) Q E s :=
  wpAny_call_entry BF.slot_rstrip (typeIs_bytes _ _ _) BF.entry_rstrip (gives_rstrip hb hq) (BF.args_rstrip _ _)
theorem call_strip (hb : b.length ≤ 16777216) (hq : ∀ t' k, Q (.bytes (stripB b c).toArray t') { s with toks := k }) : wpAny (model PG w) A (call (.builtin "bytes.strip") [.bytes b.toArray t, .bytes c.toArray u]) Q E s :=
  wpAny_call_entry BF.slot_strip (typeIs_bytes _ _ _) BF.entry_strip (gives_strip hb hq) (BF.args_strip _ _)
end
end
example : ∀ w A s Q E, TZ w A s Q E → TZ w A s Q E := by intro w A s Q E h; w_top off; first | (walk1; fail) | exact h
section
noncomputable def infixB (c b : Bts) : Bool := (List.range (b.length + 1 - c.length)).any fun i => (b.drop i).take c.length == c
theorem find_infix (b c : Bts) : (Builtin.Bytes.find? b.toArray c.toArray 0 b.toArray.size).isSome = infixB c b := by
  unfold Builtin.Bytes.find? infixB
  have e : (fun i => (b.toArray.extract i (i + c.toArray.size) == c.toArray)) = fun i => ((b.drop i).take c.length == c) := by
    funext i
    rw [Bool.eq_iff_iff]
    simp
  rw [e]
  have e1 : b.toArray.size + 1 - (0 + c.toArray.size) = b.length + 1 - c.length := by simp
  have e2 : List.map (fun x => x + 0) (List.range (b.length + 1 - c.length)) = List.range (b.length + 1 - c.length) := List.map_id' _
  rw [e1, e2, Bool.eq_iff_iff, List.find?_isSome, List.any_eq_true]
theorem infix_one (x : UInt8) (b : Bts) : infixB [x] b = b.contains x := by
  unfold infixB
  rw [Bool.eq_iff_iff]
  simp only [List.any_eq_true, List.mem_range, List.length_cons, List.length_nil, List.contains_iff_mem, beq_iff_eq]
  constructor
  · rintro ⟨i, hi, h⟩
    have hi' : i < b.length := by omega
    rw [List.drop_eq_getElem_cons hi'] at h
    simp only [Nat.zero_add, List.take_succ_cons, List.take_zero, List.cons.injEq, and_true] at h
    exact h ▸ List.getElem_mem hi'
  · intro hm
    obtain ⟨i, hi, h⟩ := List.mem_iff_getElem.mp hm
    refine ⟨i, by omega, ?_⟩
    rw [List.drop_eq_getElem_cons hi]
    simp [h]
section
variable {M : Model} {A : Around} {E : Value → Shared → Prop} {s : Shared} {b c : Bts} {t u : Tok}
theorem asIndex_bytes {b : Array UInt8} {Q : Int → Shared → Prop} (hh : A.handled = none) (h : ∀ h' tk e, Heap.NewExc s.heap h' e "TypeError" → E (.ref e) { s with heap := h', toks := tk }) :
    wpAny M A (asIndex (.bytes b t)) Q E s := by
  unfold asIndex
  refine wpAny_bind (wpAny_of_eq (a := Option.none) rfl ?_)
  refine wpAny_bind (wpAny_callSpecial?_none (typeIs_bytes _ _ _) BF.noIndexB ?_)
  refine wpAny_bind (wpAny_of_eq (a := "bytes") rfl ?_)
  exact wpAny_raiseTypeError hh h (by rw [sizeLine_eq]; decide +kernel)
theorem contains_sub (hh : A.handled = none) {Q : Fin → Shared → Prop} (hq : ∀ h' tk', KeepAll s.heap h' → Q (.done (.ret (.bool (infixB c b)))) { s with heap := h', toks := tk' }) :
    wpAny M A (Builtin.«bytes.__contains__» ⟨[.bytes b.toArray t, .bytes c.toArray u], []⟩) Q E s := by
  show wpAny M A (Builtin.Bytes.containsIn "bytes.__contains__" (.bytes b.toArray t) (.bytes c.toArray u) >>= fun r => ret (.bool r)) Q E s
  refine wpAny_bind ?_
  unfold Builtin.Bytes.containsIn
  refine wpAny_bind (wpAny_attempt (asIndex_bytes hh fun h' tk e hx => ?_))
  refine wpAny_bind (wpAny_of_eq KBy.buffer_eq ?_)
  dsimp only
  refine wpAny_bind (wpAny_of_eq KBy.buffer_eq ?_)
  refine wpAny_bind (wpAny_rule (wpAny_pure (wpAny_pure ?_)))
  rw [find_infix]
  exact hq _ _ hx.keeps
theorem contains_int {i : Int} {u : Tok} (h0 : 0 ≤ i) (h1 : i < 256) {Q : Fin → Shared → Prop} (hq : Q (.done (.ret (.bool (b.contains i.toNat.toUInt8)))) s) :
    wpAny M A (Builtin.«bytes.__contains__» ⟨[.bytes b.toArray t, .int i u], []⟩) Q E s := by
  show wpAny M A (Builtin.Bytes.containsIn "bytes.__contains__" (.bytes b.toArray t) (.int i u) >>= fun r => ret (.bool r)) Q E s
  refine wpAny_bind ?_
  unfold Builtin.Bytes.containsIn
  have e : asIndex (.int i u) = pure i := by
    unfold asIndex
    show (asInt? (.int i u) >>= fun r => _) = _
    rfl
  refine wpAny_bind (wpAny_attempt (wpAny_of_eq e ?_))
  refine wpAny_bind (wpAny_of_eq KBy.buffer_eq ?_)
  dsimp only
  have hn : (decide (i < 0) || decide (i ≥ 256)) = false := by simp; omega
  rw [hn]
  simp only [Bool.false_eq_true, if_false]
  refine wpAny_pure (wpAny_pure ?_)
  rw [containsF]
  exact hq
end
section
variable {w : World} {A : Around} {E : Value → Shared → Prop} {s : Shared} {b c : Bts} {t u : Tok} {Q : Value → Shared → Prop}
theorem in_sub (hh : A.handled = none) (hq : ∀ h' tk', KeepAll s.heap h' → Q (.bool (infixB c b)) { s with heap := h', toks := tk' }) : wpAny (model PG w) A (compareOp .In (.bytes c.toArray u) (.bytes b.toArray t)) Q E s := by
  show wpAny _ _ (do return .bool (← contains (.bytes b.toArray t) (.bytes c.toArray u))) Q E s
  refine wpAny_bind (wpAny_contains_slot (typeIs_bytes _ _ _) FB.slot_bytes_contains (wpAny_call_entry FB.slot_bytes_contains (typeIs_bytes _ _ _) FB.entry_bytes_contains (contains_sub (A := A.in1) (show A.in1.handled = none from hh) fun h' tk' k => ⟨_, rfl, ?_⟩) (FB.args_bytes_contains_2 _ _)))
  exact wpAny_truthy_bool (wpAny_pure (hq h' tk' k))
theorem notIn_sub (hh : A.handled = none) (hq : ∀ h' tk', KeepAll s.heap h' → Q (.bool (!infixB c b)) { s with heap := h', toks := tk' }) : wpAny (model PG w) A (compareOp .NotIn (.bytes c.toArray u) (.bytes b.toArray t)) Q E s := by
  show wpAny _ _ (do return .bool (!(← contains (.bytes b.toArray t) (.bytes c.toArray u)))) Q E s
  refine wpAny_bind (wpAny_contains_slot (typeIs_bytes _ _ _) FB.slot_bytes_contains (wpAny_call_entry FB.slot_bytes_contains (typeIs_bytes _ _ _) FB.entry_bytes_contains (contains_sub (A := A.in1) (show A.in1.handled = none from hh) fun h' tk' k => ⟨_, rfl, ?_⟩) (FB.args_bytes_contains_2 _ _)))
  exact wpAny_truthy_bool (wpAny_pure (hq h' tk' k))
theorem in_int {i : Int} {u : Tok} (h0 : 0 ≤ i) (h1 : i < 256) (hq : Q (.bool (b.contains i.toNat.toUInt8)) s) : wpAny (model PG w) A (compareOp .In (.int i u) (.bytes b.toArray t)) Q E s := by
  show wpAny _ _ (do return .bool (← contains (.bytes b.toArray t) (.int i u))) Q E s
  refine wpAny_bind (wpAny_contains_slot (typeIs_bytes _ _ _) FB.slot_bytes_contains (wpAny_call_entry FB.slot_bytes_contains (typeIs_bytes _ _ _) FB.entry_bytes_contains (contains_int h0 h1 ⟨_, rfl, ?_⟩) (FB.args_bytes_contains_2 _ _)))
  exact wpAny_truthy_bool (wpAny_pure hq)
end
noncomputable def splitB (x : UInt8) : Bts → List Bts
  | [] => [[]]
  | y :: r => if y = x then [] :: splitB x r else match splitB x r with
    | h :: t => (y :: h) :: t
    | [] => [[y]]
noncomputable def occB (x : UInt8) : Nat → Bts → List Nat
  | _, [] => []
  | k, y :: r => if y = x then k :: occB x (k + 1) r else occB x (k + 1) r
theorem occB_eq (x : UInt8) (b : Bts) : Builtin.Bytes.occurrences b.toArray #[x] 0 b.toArray.size = occB x 0 b := by
  unfold Builtin.Bytes.occurrences
  have key : ∀ (n k : Nat) (acc : List Nat × Nat), acc.2 ≤ k → n + k = b.length →
      ((List.range' k n).foldl (fun (acc : List Nat × Nat) i => if (decide (i ≥ acc.2) && b.toArray.extract i (i + 1) == #[x]) = true then (i :: acc.1, i + 1) else acc) acc).1 = (occB x k (b.drop k)).reverse ++ acc.1 := by
    intro n
    induction n with
    | zero =>
      intro k acc _ hk
      rw [List.drop_eq_nil_of_le (by omega)]
      simp [occB]
    | succ n ih =>
      intro k acc ha hk
      have hlt : k < b.length := by omega
      rw [List.range'_succ, List.foldl_cons, List.drop_eq_getElem_cons hlt]
      have e : (b.toArray.extract k (k + 1) == #[x]) = decide (b[k] = x) := by
        have e2 : b.toArray.extract k (k + 1) = #[b[k]] := by
          rw [List.extract_toArray, List.extract_eq_take_drop, List.drop_eq_getElem_cons hlt, Nat.add_sub_cancel_left]
          rfl
        rw [e2, Bool.eq_iff_iff]
        simp only [beq_iff_eq, decide_eq_true_eq]
        exact ⟨fun q => (List.cons.inj (congrArg Array.toList q : [b[k]] = [x])).1, fun q => by rw [q]⟩
      by_cases hx : b[k] = x
      · rw [if_pos (by rw [e]; simp [ha, hx])]
        rw [ih (k + 1) _ (Nat.le_refl _) (by omega)]
        simp [occB, hx]
      · rw [if_neg (by rw [e]; simp [hx])]
        rw [ih (k + 1) _ (by omega) (by omega)]
        simp [occB, hx]
  have key0 := key b.length 0 ([], 0) (Nat.le_refl _) (by omega)
  have e0 : List.map (fun x => x + 0) (List.range (b.toArray.size + 1 - (0 + #[x].size))) = List.range' 0 b.length := by
    have e1 : b.toArray.size + 1 - (0 + #[x].size) = b.length := by
      show b.length + 1 - (0 + 1) = b.length
      omega
    rw [e1, List.range_eq_range']
    exact List.map_id' _
  rw [List.drop_zero, List.append_nil] at key0
  rw [e0]
  refine Eq.trans (congrArg List.reverse key0) ?_
  rw [List.reverse_reverse]
theorem between_eq (x : UInt8) (b : Bts) : (Builtin.Bytes.between b.toArray 1 (occB x 0 b)) = (splitB x b).map List.toArray := by
  unfold Builtin.Bytes.between
  have key : ∀ (n k last : Nat) (parts : Array (Array UInt8)), last ≤ k → n + k = b.length →
      (let r := (occB x k (b.drop k)).foldl (fun (a : Array (Array UInt8) × Nat) p => (a.1.push (b.toArray.extract a.2 p), p + 1)) (parts, last)
       (r.1.push (b.toArray.extract r.2 b.length)).toList) =
      parts.toList ++ (match splitB x (b.drop k) with | h :: t => (((b.drop last).take (k - last)) ++ h) :: t | [] => []).map List.toArray := by
    intro n
    induction n with
    | zero =>
      intro k last parts hl hk
      rw [List.drop_eq_nil_of_le (by omega : b.length ≤ k)]
      have e : b.length = k := by omega
      simp [occB, splitB, e, List.extract_eq_take_drop]
    | succ n ih =>
      intro k last parts hl hk
      have hlt : k < b.length := by omega
      rw [List.drop_eq_getElem_cons hlt]
      by_cases hx : b[k] = x
      · rw [show occB x k (b[k] :: b.drop (k + 1)) = k :: occB x (k + 1) (b.drop (k + 1)) from by rw [occB, if_pos hx],
          show splitB x (b[k] :: b.drop (k + 1)) = [] :: splitB x (b.drop (k + 1)) from by rw [splitB, if_pos hx]]
        rw [List.foldl_cons]
        have := ih (k + 1) (k + 1) (parts.push (b.toArray.extract last k)) (Nat.le_refl _) (by rw [← hk, Nat.add_assoc, Nat.add_comm 1 k])
        refine this.trans ?_
        rw [Array.toList_push, List.append_assoc]
        congr 1
        have ne : splitB x (b.drop (k + 1)) ≠ [] := by
          cases h : b.drop (k + 1) with
          | nil => simp [splitB]
          | cons y r => rw [splitB]; split; simp; split <;> simp
        cases hs : splitB x (b.drop (k + 1)) with
        | nil => exact absurd hs ne
        | cons h t => simp [List.extract_eq_take_drop]
      · rw [show occB x k (b[k] :: b.drop (k + 1)) = occB x (k + 1) (b.drop (k + 1)) from by rw [occB, if_neg hx]]
        have := ih (k + 1) last parts (Nat.le_succ_of_le hl) (by rw [← hk, Nat.add_assoc, Nat.add_comm 1 k])
        refine this.trans ?_
        congr 1
        rw [show splitB x (b[k] :: b.drop (k + 1)) = (match splitB x (b.drop (k + 1)) with | h :: t => (b[k] :: h) :: t | [] => [[b[k]]]) from by rw [splitB, if_neg hx]]
        have e : (b.drop last).take (k + 1 - last) = (b.drop last).take (k - last) ++ [b[k]] := by
          rw [show k + 1 - last = (k - last) + 1 from Nat.succ_sub hl, List.take_add_one]
          congr 1
          rw [List.getElem?_drop, show last + (k - last) = k from Nat.add_sub_cancel' hl, List.getElem?_eq_getElem hlt]
          rfl
        have ne : splitB x (b.drop (k + 1)) ≠ [] := by
          cases h : b.drop (k + 1) with
          | nil => simp [splitB]
          | cons y r => rw [splitB]; split; simp; split <;> simp
        cases hs : splitB x (b.drop (k + 1)) with
        | nil => exact absurd hs ne
        | cons h t => simp [e]
  have := key b.length 0 0 #[] (Nat.le_refl _) (by omega)
  rw [List.drop_zero] at this
  refine Eq.trans this ?_
  cases hs : splitB x b with
  | nil =>
    cases b with
    | nil => simp [splitB] at hs
    | cons y r => rw [splitB] at hs; split at hs; simp at hs; split at hs <;> simp at hs
  | cons h t => simp
end
example : ∀ w A s Q E, TZ w A s Q E → TZ w A s Q E := by intro w A s Q E h; w_top off; first | (walk1; fail) | exact h
section
inductive BytesAre : List Value → List Bts → Prop
  | nil : BytesAre [] []
  | cons (p : Bts) (t : Tok) {vs : List Value} {ps : List Bts} : BytesAre vs ps → BytesAre (Value.bytes p.toArray t :: vs) (p :: ps)
theorem BytesAre.length {vs : List Value} {ps : List Bts} (h : BytesAre vs ps) : vs.length = ps.length := by
  induction h with
  | nil => rfl
  | cons _ _ _ ih => simp [ih]
theorem BytesAre.get {vs : List Value} {ps : List Bts} (h : BytesAre vs ps) {i : Nat} {v : Value} (hv : vs[i]? = some v) : ∃ p t, ps[i]? = some p ∧ v = Value.bytes p.toArray t := by
  induction h generalizing i with
  | nil => simp at hv
  | cons p t _ ih =>
    cases i with
    | zero => exact ⟨p, t, rfl, by simpa using hv.symm⟩
    | succ i => exact ih (by simpa using hv)
theorem occB_length (x : UInt8) : ∀ (b : Bts) (k : Nat), (occB x k b).length ≤ b.length
  | [], _ => by simp [occB]
  | y :: r, k => by
    rw [occB]
    have := occB_length x r (k + 1)
    split <;> simp <;> omega
theorem occB_nil {x : UInt8} : ∀ {b : Bts} {k : Nat}, occB x k b = [] → splitB x b = [b]
  | [], _, _ => rfl
  | y :: r, k, h => by
    rw [occB] at h
    by_cases hy : y = x
    · rw [if_pos hy] at h; cases h
    · rw [if_neg hy] at h
      rw [splitB, if_neg hy, occB_nil h]
theorem splitB_size {x : UInt8} : ∀ {b : Bts} {p : Bts}, p ∈ splitB x b → p.length ≤ b.length
  | [], p, h => by simp [splitB] at h; simp [h]
  | y :: r, p, h => by
    rw [splitB] at h
    split at h
    · rcases List.mem_cons.mp h with rfl | h
      · simp
      · have := splitB_size h; simp; omega
    · split at h
      · rename_i h0 t e
        rcases List.mem_cons.mp h with rfl | h
        · have := splitB_size (x := x) (b := r) (p := h0) (by rw [e]; exact .head _); simp; omega
        · have := splitB_size (x := x) (b := r) (p := p) (by rw [e]; exact .tail _ h); simp; omega
      · simp at h; simp [h]
section
variable {M : Model} {A : Around} {E : Value → Shared → Prop}
theorem mapM_bytes : ∀ (ps : List Bts) (s : Shared) (Q : List Value → Shared → Prop), (∀ p ∈ ps, p.length ≤ 16777216) → (∀ vs tk', BytesAre vs ps → Q vs { s with toks := tk' }) →
    wpAny M A ((ps.map List.toArray).mapM (Builtin.Bytes.Kind.new .bytes)) Q E s
  | [], s, Q, _, h => by
    rw [List.map_nil, List.mapM_nil]
    exact wpAny_pure (h [] s.toks .nil)
  | p :: r, s, Q, hz, h => by
    rw [List.map_cons, List.mapM_cons]
    refine wpAny_bind (wpAny_mkBytes ?_ (by rw [sizeLine_eq]; have := hz p (.head _); simpa using this))
    refine wpAny_bind (mapM_bytes r _ _ (fun q hq => hz q (.tail _ hq)) fun vs tk' hv => ?_)
    exact wpAny_pure (h _ tk' (.cons _ _ hv))
end
section
variable {w : World} {A : Around} {E : Value → Shared → Prop} {s : Shared} {b : Bts} {x : UInt8} {t u : Tok} {Q : Value → Shared → Prop}
noncomputable abbrev lstObj (vs : List Value) : Obj := { cls := .type "list", data := .seq vs.toArray }
theorem call_split (hb : b.length ≤ 1048576) (hq : ∀ vs tk', BytesAre vs (splitB x b) → (splitB x b).length ≤ b.length + 1 → Q (.ref s.heap.objs.size) { s with heap := s.heap.push (lstObj vs), toks := tk' }) :
    wpAny (model PG w) A (call (.builtin "bytes.split") [.bytes b.toArray t, .bytes (List.toArray [x]) u]) Q E s := by
  have hlen : (splitB x b).length ≤ b.length + 1 := by
    have : ∀ b : Bts, (splitB x b).length ≤ b.length + 1 := fun b => by
      induction b with
      | nil => simp [splitB]
      | cons y r ih =>
        rw [splitB]
        split
        · simp; omega
        · split
          · rename_i h0 t e
            rw [e] at ih; simp at ih ⊢; omega
          · simp
    exact this b
  refine wpAny_call_entry BF.slot_split (typeIs_bytes _ _ _) BF.entry_split ?_ (BF.args_split _ _)
  unfold Builtin.«bytes.split» Builtin.Bytes.splitM
  show wpAny _ _ (Builtin.Bytes.bindOptional "bytes.split" "split" ["sep", "maxsplit"] [.bytes (List.toArray [x]) u] [] >>= fun r => _) _ E s
  refine wpAny_bind (wpAny_of_eq (a := [some (.bytes (List.toArray [x]) u), Option.none]) (by kernel_rfl) ?_)
  dsimp only
  refine wpAny_bind (wpAny_pure (wpAny_bind (wpAny_of_eq (a := b.toArray) rfl ?_)))
  refine wpAny_bind (wpAny_of_eq bytesLike_eq ?_)
  have e0 : Array.isEmpty (List.toArray [x]) = false := rfl
  have hocc := occB_eq x b
  have htake : (Builtin.Bytes.occurrences b.toArray (List.toArray [x]) 0 b.toArray.size).take (b.toArray.size + 1) = occB x 0 b := by
    rw [hocc]
    exact List.take_of_length_le (by have := occB_length x b 0; simp; omega)
  simp only [e0, Bool.false_eq_true, if_false]
  have hneg : ((-1 : Int) < 0) := by decide
  simp only [if_pos hneg, htake]
  by_cases hemp : (occB x 0 b).isEmpty = true
  · rw [if_pos hemp]
    have e : occB x 0 b = [] := List.isEmpty_iff.mp hemp
    refine wpAny_bind (wpAny_rule (wpAny_bind (wpAny_of_eq (a := Value.bytes b.toArray t) rfl ?_)))
    refine wpAny_bind (wpAny_newObj_type (wpAny_pure ⟨_, rfl, ?_⟩) (by show 1 ≤ sizeLine; rw [sizeLine_eq]; decide))
    have h1 := occB_nil e
    have := hq [.bytes b.toArray t] s.toks (by rw [h1]; exact .cons _ _ .nil) hlen
    exact this
  · rw [if_neg hemp]
    have hbt := between_eq x b
    have sz : Array.size (List.toArray [x]) = 1 := rfl
    rw [sz, hbt]
    refine wpAny_bind (mapM_bytes _ _ _ (fun p hp => by have := splitB_size hp; omega) fun vs tk' hv => ?_)
    refine wpAny_bind (wpAny_newObj_type (wpAny_pure ⟨_, rfl, ?_⟩) ?_)
    · exact hq vs tk' hv hlen
    · show vs.toArray.size ≤ sizeLine
      rw [List.size_toArray, sizeLine_eq, hv.length]; omega
end
end
example : ∀ w A s Q E, TZ w A s Q E → TZ w A s Q E := by intro w A s Q E h; w_top off; first | (walk1; fail) | exact h
section
noncomputable def sliceB (b : Bts) (lo hi : Option Int) : Bts := (b.drop (lo.elim 0 (clipAt b.length))).take (hi.elim b.length (clipAt b.length) - lo.elim 0 (clipAt b.length))
theorem clip_nat (n k : Nat) : clipAt n (k : Int) = min k n := clipAt_nat n k
theorem sliceB_from (b : Bts) (k : Nat) : sliceB b (some (k : Int)) none = b.drop k := by
  unfold sliceB
  simp only [Option.elim, clip_nat]
  by_cases h : k ≤ b.length
  · rw [Nat.min_eq_left h]
    exact List.take_of_length_le (by simp)
  · rw [Nat.min_eq_right (by omega), List.drop_eq_nil_of_le (Nat.le_refl _), List.drop_eq_nil_of_le (by omega)]; exact List.take_nil
theorem sliceB_to (b : Bts) (k : Nat) : sliceB b none (some (k : Int)) = b.take k := by
  unfold sliceB
  simp only [Option.elim, clip_nat, List.drop_zero, Nat.sub_zero]
  by_cases h : k ≤ b.length
  · rw [Nat.min_eq_left h]
  · rw [Nat.min_eq_right (by omega), List.take_of_length_le (Nat.le_refl _), List.take_of_length_le (by omega)]
theorem clip_neg (n k : Nat) (hk : 0 < k) : clipAt n (-(k : Int)) = n - k := by
  unfold clipAt
  rw [if_pos (Int.neg_neg_of_pos (Int.ofNat_lt.mpr hk)), Int.min_eq_left (by lia : -(k : Int) + (n : Int) ≤ n)]
  lia
theorem sliceB_last (b : Bts) (k : Nat) (hk : 0 < k) : sliceB b (some (-(k : Int))) none = b.drop (b.length - k) := by
  unfold sliceB
  simp only [Option.elim, clip_neg _ _ hk]
  exact List.take_of_length_le (by simp)
theorem sliceB_one (b : Bts) (i : Nat) : sliceB b (some (i : Int)) (some ((i : Int) + 1)) = (b.drop i).take 1 := by
  unfold sliceB
  have e : ((i : Int) + 1) = ((i + 1 : Nat) : Int) := by omega
  rw [e]
  simp only [Option.elim, clip_nat]
  by_cases h : i < b.length
  · rw [Nat.min_eq_left (by omega), Nat.min_eq_left (by omega)]
    congr 1; omega
  · rw [Nat.min_eq_right (by omega), Nat.min_eq_right (by omega), List.drop_eq_nil_of_le (Nat.le_refl _), List.drop_eq_nil_of_le (by omega)]; simp
theorem sliceB_le (b : Bts) (lo hi : Option Int) : (sliceB b lo hi).length ≤ b.length := by
  unfold sliceB; rw [List.length_take, List.length_drop]; exact Nat.le_trans (Nat.min_le_right _ _) (Nat.sub_le _ _)
section
variable {w : World} {A : Around} {E : Value → Shared → Prop} {s : Shared} {b c : Bts} {t u : Tok} {Q : Value → Shared → Prop} {value slice : PySem.Expr} {h₀ : Heap} {L : Addr} {m : Str → Option Value} {news : List (Addr × Obj)} {l v : Value} {lo hi : Option Int}
theorem slice_L (hF : Fr h₀ L s.heap m) (hN : News h₀ L s.heap news) (hl : IsPart l lo) (hu : IsPart v hi) (hz : b.length ≤ 16777216)
    (h : ∀ h' t' k, Fr h₀ L h' m → News h₀ L h' news → Q (.bytes (sliceB b lo hi).toArray t') { s with heap := h', toks := k })
    (hs : subscripted slice false (.bytes b.toArray t) (.ref s.heap.objs.size) = operate [.ref s.heap.objs.size, .bytes b.toArray t] (getItem (.bytes b.toArray t) (.ref s.heap.objs.size)) := by with_unfolding_all rfl)
    (ht : ∀ r, letTemporaryGo value (.bytes b.toArray t) r = pure () := by intro _; with_unfolding_all rfl) :
    wpAny (model PG w) A (subscriptTail value slice (.bytes b.toArray t) (.ref s.heap.objs.size)) Q E { s with heap := s.heap.push { cls := .type "slice", data := .fields #[l, v, .none] } } := by
  refine KBc.slice_K hF hN rfl hl hu (by rw [KBw.ints_length]; simpa using hz) (fun h' t' k F' N' _ => ?_) hs ht
  have := h h' t' k F' N'
  have e : KBy.picked b.toArray lo hi = (sliceB b lo hi).toArray := by
    rw [KBc.picked_eq]; simp [sliceB]
  rw [e]; exact this
theorem item_L {i : Int} {ui : Tok} (hz : b.length ≤ 16777216) (h0 : -(b.length : Int) ≤ i) (h1 : i < (b.length : Int))
    (h : ∀ t' k, Q (.int (b.getD (if i < 0 then i + b.length else i).toNat 0).toNat t') { s with toks := k })
    (hs : subscripted slice false (.bytes b.toArray t) (.int i ui) = operate [.bytes b.toArray t, .int i ui] (getItem (.bytes b.toArray t) (.int i ui)) := by with_unfolding_all rfl)
    (ht : ∀ r, letTemporaryGo value (.bytes b.toArray t) r = pure () := by intro _; with_unfolding_all rfl) :
    wpAny (model PG w) A (subscriptTail value slice (.bytes b.toArray t) (.int i ui)) Q E s := by
  by_cases hi : i < 0
  · simp only [if_pos hi] at h
    refine KBc.itemR_K (ks := b.map fun c => (c.toNat : Int)) (by rfl) (by simp; omega) (by simpa using h0) hi (fun t' k _ _ => ?_) hs ht
    have := h t' k
    rw [KBw.getD_ints] at this
    simpa using this
  · simp only [if_neg hi] at h
    exact KBy.item_N (by omega) (by omega) h1 (h _ _) hs ht
theorem eq_L (h : Q (.bool (b == c)) s) : wpAny (model PG w) A (compareOp .Eq (.bytes b.toArray t) (.bytes c.toArray u)) Q E s := eq_bytes h
theorem ne_L (h : Q (.bool (b != c)) s) : wpAny (model PG w) A (compareOp .NotEq (.bytes b.toArray t) (.bytes c.toArray u)) Q E s := ne_bytes h
theorem add_L (hz : b.length + c.length ≤ 16777216) (h : ∀ t' k, Q (.bytes (b ++ c).toArray t') { s with toks := k }) : wpAny (model PG w) A (binaryOp .Add (.bytes b.toArray t) (.bytes c.toArray u)) Q E s :=
  bytes_add_K (by simpa using hz) rfl h
theorem len_L (hz : b.length ≤ 16777216) (h : ∀ t' k, Q (.int b.length t') { s with toks := k }) : wpAny (model PG w) A (call (.builtin "len") [.bytes b.toArray t]) Q E s :=
  len_bytes (by simp; omega) (h _ _)
theorem truthy_L {Q : Bool → Shared → Prop} (hz : b.length ≤ 16777216) (h : ∀ k, Q (!b.isEmpty) { s with toks := k }) : wpAny (model PG w) A (truthy (.bytes b.toArray t)) Q E s := by
  refine truthy_bytes (by simp; omega) ?_
  have e : ((b.toArray.size : Int) != 0) = !b.isEmpty := by cases b <;> simp; omega
  rw [e]; exact h _
end
end
example : ∀ w A s Q E, TZ w A s Q E → TZ w A s Q E := by intro w A s Q E h; w_top off; first | (walk1; fail) | exact h
section
noncomputable abbrev frs (l : List Env) : List Addr := l.filterMap (·.frame)
noncomputable def FramesOk (h : Heap) : List Env → Prop
  | [] => True
  | env :: r => env.scope.kind ≠ .module ∧ (∃ L o, env.frame = some L ∧ h.get? L = some o ∧ ∀ vs, o.data ≠ .fields vs) ∧ FramesOk h r
theorem FramesOk.fun {h base : Heap} : ∀ {l : List Env}, FramesOk h l → (∀ b ∈ frs l, base.get? b = none) → h.FunFrames base l
  | [], _, _ => trivial
  | env :: r, ⟨hk, ⟨L, o, hf, ho, hd⟩, hr⟩, hn => ⟨hk, ⟨L, o, hf, hn L (List.mem_filterMap.mpr ⟨env, .head _, hf⟩), ho, hd⟩, FramesOk.fun hr fun b hb => hn b (by
      obtain ⟨e, he, h2⟩ := List.mem_filterMap.mp hb
      exact List.mem_filterMap.mpr ⟨e, .tail _ he, h2⟩)⟩
theorem FramesOk.up {h h' : Heap} (u : h.UpToSlots h') : ∀ {l : List Env}, FramesOk h l → FramesOk h' l
  | [], _ => trivial
  | _ :: _, ⟨hk, ⟨L, o, hf, ho, hd⟩, hr⟩ => ⟨hk, ⟨L, { o with slots := _ }, hf, (u L o ho hd).choose_spec, hd⟩, hr.up u⟩
theorem FramesOk.keep {h h' : Heap} {l : List Env} (x : FramesOk h l) (k : KeepAll h h') : FramesOk h' l := x.up (Heap.UpToSlots.of_keeps k)
theorem FramesOk.mem {h : Heap} : ∀ {l : List Env} {b : Addr}, FramesOk h l → b ∈ frs l → ∃ o, h.get? b = some o ∧ ∀ vs, o.data ≠ .fields vs
  | env :: r, b, ⟨_, ⟨L, o, hf, ho, hd⟩, hr⟩, hb => by
    obtain ⟨e, he, h2⟩ := List.mem_filterMap.mp hb
    rcases List.mem_cons.mp he with rfl | he
    · rw [hf] at h2; cases h2; exact ⟨o, ho, hd⟩
    · exact hr.mem (List.mem_filterMap.mpr ⟨e, he, h2⟩)
theorem FramesOk.push {h h₁ : Heap} {l : List Env} {env : Env} {L : Addr} {m : Str → Option Value} (x : FramesOk h₁ l) (hk : env.scope.kind = .function) (hf : env.frame = some L) (hn : h₁.Ns L m) : FramesOk h₁ (env :: l) := by
  obtain ⟨o, es, ep, ho, hd, _⟩ := hn
  exact ⟨by rw [hk]; decide, ⟨L, o, hf, ho, fun vs q => by rw [hd] at q; cases q⟩, x⟩
noncomputable def KeepF (l : List Env) (h h' : Heap) : Prop := Keep (frs l) h h' ∧ h.UpToSlots h'
theorem KeepF.of {l : List Env} {h h' : Heap} (k : KeepAll h h') : KeepF l h h' := ⟨fun b o _ e => k b o e, Heap.UpToSlots.of_keeps k⟩
theorem KeepF.trans {l : List Env} {h h₁ h₂ : Heap} (x : KeepF l h h₁) (y : KeepF l h₁ h₂) : KeepF l h h₂ := ⟨fun b o n e => y.1 b o n (x.1 b o n e), x.2.trans y.2⟩
noncomputable def RaisedH (h : Heap) (fs : List Env) (e : Addr) (cls : Value) (h' : Heap) : Prop :=
  ∃ a0, Heap.FlyingW (hideAll h (frs fs)) fs e cls a0 h' ∧ h.UpToSlots h'
theorem RaisedH.keepF {h : Heap} {fs : List Env} {e : Addr} {cls : Value} {h' : Heap} (R : RaisedH h fs e cls h') : KeepF fs h h' := by
  obtain ⟨a0, hfl, hup⟩ := R
  exact ⟨fun b o n q => hfl.1 b o (hideAll_get _ q n), hup⟩
theorem RaisedH.from {h g : Heap} {fs : List Env} {e : Addr} {cls : Value} {h' : Heap} (k : KeepAll g h) (R : RaisedH h fs e cls h') : RaisedH g fs e cls h' := by
  obtain ⟨a0, hfl, hup⟩ := R
  refine ⟨a0, flyingW_base (fun b o q => ?_) hfl, (Heap.UpToSlots.of_keeps k).trans hup⟩
  refine hideAll_get _ (k b o (of_hideAll _ q)) fun hm => ?_
  rw [hideAll_none _ hm] at q; cases q
section
variable {M : Model} {A : Around} {E : Value → Shared → Prop} {s : Shared} {h h₁ : Heap} {fs : List Env} {env : Env} {L e : Addr} {cls : Value} {Q : Unit → Shared → Prop}
theorem leave_first {oe : Obj} {vs : Array Value} {a0 : Value} {m : Str → Option Value} (hA : A.frames = some fs) (hfs : FramesOk h fs) (k : KeepAll h s.heap) (hL : h.get? L = none) (hn : s.heap.Ns L m) (hk : env.scope.kind = .function) (hf : env.frame = some L)
    (he : s.heap.get? e = some oe) (hen : h.get? e = none) (hc : oe.cls = cls) (hd : oe.data = .fields vs) (h1 : vs[1]? = some .none) (h0 : vs[0]? = some a0)
    (hQ : ∀ h', RaisedH h fs e cls h' → Q () { s with heap := h' }) : wpAny M (A.deeper env) (leaving env (.ref e)) Q E s := by
  have hfun : s.heap.FunFrames (hideAll h (frs fs)) (env :: fs) := by
    obtain ⟨o, es, ep, ho, hod, _⟩ := hn
    refine ⟨by rw [hk]; decide, ⟨L, o, hf, ?_, ho, fun vs q => by rw [hod] at q; cases q⟩, (hfs.keep k).fun fun b hb => hideAll_none _ hb⟩
    cases q : (hideAll h (frs fs)).get? L with
    | none => rfl
    | some o => rw [of_hideAll _ q] at hL; cases hL
  refine wpAny_leaving_firstW (a0 := a0) (base := hideAll h (frs fs)) (Around.frames_deeper hA) hfun hf he (fun b o q => k b o (of_hideAll _ q)) ?_ hd h1 h0 fun h' hW => ?_
  · cases q : (hideAll h (frs fs)).get? e with
    | none => rfl
    | some o => rw [of_hideAll _ q] at hen; cases hen
  · obtain ⟨k1, ⟨_, _, k2⟩, k3, k4⟩ := hW
    refine hQ h' ⟨a0, ⟨k1, ?_, k2, hc ▸ k3⟩, (Heap.UpToSlots.of_keeps k).trans k4⟩
    cases q : (hideAll h (frs fs)).get? e with
    | none => rfl
    | some o => rw [of_hideAll _ q] at hen; cases hen
theorem leave_on (hA : A.frames = some fs) (hf : env.frame = some L) (hL : h.get? L = none) (k : KeepAll h h₁) (R : RaisedH h₁ (env :: fs) e cls s.heap)
    (hQ : ∀ h', RaisedH h fs e cls h' → Q () { s with heap := h' }) : wpAny M (A.deeper env) (leaving env (.ref e)) Q E s := by
  obtain ⟨a0, hfl, hup⟩ := R
  refine wpAny_leaves_onW (Around.frames_deeper hA) hf hfl fun h' x1 x2 => hQ h' ⟨a0, flyingW_base (fun b o q => ?_) x1, ((Heap.UpToSlots.of_keeps k).trans hup).trans x2⟩
  have hb := of_hideAll _ q
  refine hideAll_get _ (k b o hb) fun hm => ?_
  obtain ⟨e', he', h2⟩ := List.mem_filterMap.mp hm
  rcases List.mem_cons.mp he' with rfl | he'
  · rw [hf] at h2; cases h2; rw [hL] at hb; cases hb
  · rw [hideAll_none _ (List.mem_filterMap.mpr ⟨e', he', h2⟩)] at q; cases q
end
end
example : ∀ w A s Q E, TZ w A s Q E → TZ w A s Q E := by intro w A s Q E h; w_top off; first | (walk1; fail) | exact h
section
section
variable {w : World} {A : Around} {s : Shared} {K : Frag} {mg mb : Str → Option Value} {p : Program} {loose : List Str} {mean : ExcName → Option Value} {E : Value → Shared → Prop} {g : Heap} {L a : Addr} {m : Str → Option Value} {name : Str} {scope : Scope} {cd : Value} {np cpos pos : Pos} {Q : Flow → Shared → Prop}
noncomputable def RaiseEnd (E : Value → Shared → Prop) (cls : Value) (vs : List Value) (s : Shared) : Prop := ∀ h' e, Heap.MadeExcOf s.heap h' e cls vs → E (.ref e) { s with heap := h' }
theorem raise_VE {e₀ : Expr} {rest : List Expr} (F : Fr g L s.heap m) (X : K.In g) (T : Top p loose mean mg mb g) (hh : A.handled = none) (ex : nsIn K mainGlobals "ValueError" = some none)
    (h : wpAny (model PG w) A (spliced (backTo cpos (starEach (e₀ :: rest) (envOf name scope L a cd)))) (fun vs s₂ => vs.length ≤ sizeLine ∧ RaiseEnd E (.type "ValueError") vs s₂) E s)
    (he : starEach (e₀ :: rest) (envOf name scope L a cd) = (false, eval e₀ (envOf name scope L a cd)) :: starEach rest (envOf name scope L a cd))
    (hplain : (backTo cpos (starEach rest (envOf name scope L a cd))).any (·.1) = false)
    (hk : scope.kind = .function) (hx : (envOf name scope L a cd).kindOf "ValueError" = some .globalImplicit) :
    wpAny (model PG w) A (exec (.Raise (some (.Call (.Name "ValueError" np) (e₀ :: rest) [] cpos)) none pos) (envOf name scope L a cd)) Q E s := by
  refine wpAny_Raise_call PySem.F.excCall_ValueError PySem.F.excRaise_ValueError hh (by rw [he]; show (false || (backTo cpos (starEach rest (envOf name scope L a cd))).any (·.1)) = false; rw [hplain]; rfl)
    (name_B F X (topRead_of T) ex (by rfl) (by decide) ⟨rfl, ?_⟩ hk hx)
  rw [he] at h ⊢
  exact Calls.evalArgs_plain (wpAny_mono h (fun vs s₂ h₂ => ⟨rfl, h₂.1, fun h' e x => h₂.2 h' e ⟨x.keeps, x.new, x.there⟩⟩) fun _ _ y => y)
end
theorem leave_made {M : Model} {A : Around} {E : Value → Shared → Prop} {s : Shared} {h h₁ g : Heap} {fs : List Env} {env : Env} {L e : Addr} {cls : Value} {args : List Value} {m : Str → Option Value} {Q : Unit → Shared → Prop}
    (hx : Heap.MadeExcOf h₁ s.heap e cls args) (F : Fr g L h₁ m) (hA : A.frames = some fs) (hfs : FramesOk h fs) (k : KeepAll h h₁) (hL : h.get? L = none) (hk : env.scope.kind = .function) (hf : env.frame = some L)
    (hQ : ∀ h', RaisedH h fs e cls h' → Q () { s with heap := h' }) : wpAny M (A.deeper env) (leaving env (.ref e)) Q E s := by
  obtain ⟨t, he, _, _⟩ := hx.there
  refine leave_first hA hfs (fun b o q => hx.keeps b o (k b o q)) hL (F.ns.keeps hx.keeps) hk hf he ?_ rfl rfl rfl rfl hQ
  cases q : h.get? e with
  | none => rfl
  | some o => have := k e o q; rw [hx.new] at this; cases this
theorem fresh_size (h : Heap) : h.get? h.objs.size = none := Heap.get?_none_of_le (Nat.le_refl _)
end
example : ∀ w A s Q E, TZ w A s Q E → TZ w A s Q E := by intro w A s Q E h; w_top off; first | (walk1; fail) | exact h
section
noncomputable abbrev DD := List (Bts × Bts)
noncomputable def getB (D : DD) (k : Bts) : Option Bts := (D.find? fun p => decide (p.1 = k)).map (·.2)
noncomputable def putB (D : DD) (k v : Bts) : DD := if D.any (fun p => decide (p.1 = k)) then D.map (fun p => if p.1 = k then (p.1, v) else p) else D ++ [(k, v)]
noncomputable def delB (D : DD) (k : Bts) : DD := D.filter fun p => decide (p.1 ≠ k)
inductive KVs : List (Bts × Value) → DD → Prop
  | nil : KVs [] []
  | cons (k v : Bts) (t : Tok) {kvs : List (Bts × Value)} {D : DD} : KVs kvs D → KVs ((k, .bytes v.toArray t) :: kvs) ((k, v) :: D)
theorem KVs.length {kvs : List (Bts × Value)} {D : DD} (h : KVs kvs D) : kvs.length = D.length := by
  induction h with
  | nil => rfl
  | cons _ _ _ _ ih => simp [ih]
theorem KVs.keys {kvs : List (Bts × Value)} {D : DD} (h : KVs kvs D) : kvs.map (·.1) = D.map (·.1) := by
  induction h with
  | nil => rfl
  | cons _ _ _ _ ih => simp [ih]
theorem KVs.at {kvs : List (Bts × Value)} {D : DD} (h : KVs kvs D) (k : Bts) : (∃ v t, getB D k = some v ∧ valueAt kvs k = some (.bytes v.toArray t)) ∨ (getB D k = none ∧ valueAt kvs k = none) := by
  induction h with
  | nil => exact .inr ⟨rfl, rfl⟩
  | @cons k' v t kvs D _ ih =>
    by_cases e : k' = k
    · exact .inl ⟨v, t, by simp [getB, e], by simp [valueAt, e]⟩
    · have e1 : getB ((k', v) :: D) k = getB D k := by simp [getB, e]
      have e2 : valueAt ((k', Value.bytes v.toArray t) :: kvs) k = valueAt kvs k := by simp [valueAt, e]
      rw [e1, e2]; exact ih
theorem KVs.any {kvs : List (Bts × Value)} {D : DD} (h : KVs kvs D) (k : Bts) : (kvs.any fun p => decide (p.1 = k)) = D.any fun p => decide (p.1 = k) := by
  induction h with
  | nil => rfl
  | cons _ _ _ _ ih => simp [ih]
theorem KVs.append {kvs kvs' : List (Bts × Value)} {D D' : DD} (h : KVs kvs D) (h' : KVs kvs' D') : KVs (kvs ++ kvs') (D ++ D') := by
  induction h with
  | nil => exact h'
  | cons k v t _ ih => exact .cons k v t ih
theorem KVs.mapStore {kvs : List (Bts × Value)} {D : DD} (h : KVs kvs D) (k v : Bts) (t : Tok) : KVs (kvs.map fun p => if p.1 = k then (p.1, .bytes v.toArray t) else p) (D.map fun p => if p.1 = k then (p.1, v) else p) := by
  induction h with
  | nil => exact .nil
  | cons k' v' t' _ ih =>
    rw [List.map_cons, List.map_cons]
    by_cases e : k' = k
    · simp only [e, if_true]; exact .cons _ _ _ ih
    · simp only [e, if_false]; exact .cons _ _ _ ih
theorem KVs.stored {kvs : List (Bts × Value)} {D : DD} (h : KVs kvs D) (k v : Bts) (t : Tok) : KVs (PySem.stored kvs k (.bytes v.toArray t)) (putB D k v) := by
  unfold PySem.stored putB
  rw [h.any k]
  split
  · exact h.mapStore k v t
  · exact h.append (.cons k v t .nil)
theorem KVs.without {kvs : List (Bts × Value)} {D : DD} (h : KVs kvs D) (k : Bts) : KVs (PySem.without kvs k) (delB D k) := by
  unfold PySem.without delB
  induction h with
  | nil => exact .nil
  | cons k' v' t' _ ih =>
    by_cases e : k' = k
    · simp only [List.filter_cons, e, ne_eq, not_true_eq_false, decide_false, Bool.false_eq_true, if_false]; exact ih
    · simp only [List.filter_cons, e, ne_eq, not_false_eq_true, decide_true, if_true]; exact .cons _ _ _ ih
noncomputable def BObj (w : World) (o : Obj) (D : DD) : Prop := ∃ kvs, o.IsDictOf (bytesKind PG w) kvs ∧ KVs kvs D
theorem BObj.nodup {w : World} {o : Obj} {D : DD} (h : BObj w o D) : (D.map (·.1)).Nodup := by
  obtain ⟨kvs, ⟨_, _, _, _, _, _, hn⟩, hk⟩ := h
  rw [← hk.keys]; exact hn
theorem BObj.new {w : World} {o : Obj} (h : o.IsDictOf (PySem.strKind PG w) []) : BObj w o [] := by
  obtain ⟨es, ep, he, hd, hk, hp, hn⟩ := h
  have : es = #[] := by
    obtain ⟨l⟩ := es
    cases hp
    rfl
  subst this
  exact ⟨[], ⟨#[], ep, he, hd, fun e he => by simp at he, .nil, by simp⟩, .nil⟩
section
variable {w : World} {A : Around} {E : Value → Shared → Prop} {s : Shared} {h₀ : Heap} {L d : Addr} {m : Str → Option Value} {news : List (Addr × Obj)} {u : Obj → List (Addr × Obj)} {o : Obj} {D : DD} {k v : Bts} {t t' : Tok}
theorem key_is {k : Bts} {t : Tok} : (bytesKind PG w).is k (.bytes k.toArray t) = true := by simp [bytesKind, isBytes]
theorem bget2 {Q : Value → Shared → Prop} {dflt : Value} (N : News h₀ L s.heap news) (hp : (d, o) ∈ news) (hB : BObj w o D) (lo : (d == sysModules) = false)
    (h : ∀ v t, getB D k = some v → Q (.bytes v.toArray t) { s with toks := s.toks + 1 }) (hn : getB D k = none → Q dflt { s with toks := s.toks + 1 }) :
    wpAny (model PG w) A (call (.builtin "dict.get") [.ref d, .bytes k.toArray t, dflt]) Q E s := by
  obtain ⟨kvs, hd, hk⟩ := hB
  rcases hk.at k with ⟨v, t', e1, e2⟩ | ⟨e1, e2⟩
  · exact kdg_get2 N hp hd lo key_is _ e2 (h v t' e1)
  · exact kdg_get2 N hp hd lo key_is _ e2 (hn e1)
theorem bget1 {Q : Value → Shared → Prop} (N : News h₀ L s.heap news) (hp : (d, o) ∈ news) (hB : BObj w o D) (lo : (d == sysModules) = false)
    (h : ∀ v t, getB D k = some v → Q (.bytes v.toArray t) { s with toks := s.toks + 1 }) (hn : getB D k = none → Q .none { s with toks := s.toks + 1 }) :
    wpAny (model PG w) A (call (.builtin "dict.get") [.ref d, .bytes k.toArray t]) Q E s := by
  obtain ⟨kvs, hd, hk⟩ := hB
  rcases hk.at k with ⟨v, t', e1, e2⟩ | ⟨e1, e2⟩
  · exact kdg_get1 N hp hd lo key_is _ e2 (h v t' e1)
  · exact kdg_get1 N hp hd lo key_is _ e2 (hn e1)
theorem bmeth {pl : Sem Bool} {name : Str} {id : String} {Q : Value × List Value → Shared → Prop} (slot : Slot "dict" name id) (ty : typeOf (.builtin id) = pure (.type "method_descriptor")) (N : News h₀ L s.heap news) (hp : (d, o) ∈ news) (hB : BObj w o D) (h : Q (.builtin id, [.ref d]) s) : wpAny (model PG w) A (getMethod (.ref d) name pl) Q E s := by
  obtain ⟨kvs, hd, hk⟩ := hB
  have hD := kda_dict N hp hd
  exact getMethod_builtin hD.typeIs PySem.F.plainAttrs_dict slot ty hD.mapOf.noDict h
theorem bin {Q : Value → Shared → Prop} (N : News h₀ L s.heap news) (hp : (d, o) ∈ news) (hB : BObj w o D) (lo : (d == sysModules) = false) (h : Q (.bool (getB D k).isSome) { s with toks := s.toks + 1 }) :
    wpAny (model PG w) A (compareOp .In (.bytes k.toArray t) (.ref d)) Q E s := by
  obtain ⟨kvs, hd, hk⟩ := hB
  refine kda_in N hp hd lo key_is _ ?_ h
  rcases hk.at k with ⟨v, t', e1, e2⟩ | ⟨e1, e2⟩ <;> rw [e1, e2] <;> rfl
theorem bnotin {Q : Value → Shared → Prop} (N : News h₀ L s.heap news) (hp : (d, o) ∈ news) (hB : BObj w o D) (lo : (d == sysModules) = false) (h : Q (.bool (!(getB D k).isSome)) { s with toks := s.toks + 1 }) :
    wpAny (model PG w) A (compareOp .NotIn (.bytes k.toArray t) (.ref d)) Q E s := by
  obtain ⟨kvs, hd, hk⟩ := hB
  refine kdg_notin N hp hd lo key_is _ ?_ h
  rcases hk.at k with ⟨v, t', e1, e2⟩ | ⟨e1, e2⟩ <;> rw [e1, e2] <;> rfl
theorem bset {Q : Unit → Shared → Prop} (F : Fr h₀ L s.heap m) (N : News h₀ L s.heap news) (U : UpdF d o news u) (hB : BObj w o D) (hsz : D.length ≤ 16777216)
    (h : ∀ h' o', Fr h₀ L h' m → News h₀ L h' (u o') → BObj w o' (putB D k v) → Q () { s with heap := h', toks := s.toks + 1 }) : wpAny (model PG w) A (setItem (.ref d) (.bytes k.toArray t) (.bytes v.toArray t')) Q E s := by
  obtain ⟨kvs, hd, hk⟩ := hB
  exact kda_set F N U hd key_is (by rw [hk.length, sizeLine_eq]; exact hsz) fun h' o' F' N' hd' => h h' o' F' N' ⟨_, hd', hk.stored k v t'⟩
theorem bitem {value slice : PySem.Expr} {Q : Value → Shared → Prop} (N : News h₀ L s.heap news) (hp : (d, o) ∈ news) (hB : BObj w o D) (hl : getB D k = some v) (h : ∀ t', Q (.bytes v.toArray t') { s with toks := s.toks + 1 })
    (hs : subscripted slice false (.ref d) (.bytes k.toArray t) = operate [.ref d, .bytes k.toArray t] (getItem (.ref d) (.bytes k.toArray t)) := by with_unfolding_all rfl) (hg : ∀ r, letTemporaryGo value (.ref d) r = pure () := by intro _; with_unfolding_all rfl) :
    wpAny (model PG w) A (subscriptTail value slice (.ref d) (.bytes k.toArray t)) Q E s := by
  obtain ⟨kvs, hd, hk⟩ := hB
  rcases hk.at k with ⟨v', t', e1, e2⟩ | ⟨e1, e2⟩
  · rw [hl] at e1; cases e1
    exact kda_item N hp hd key_is e2 (h t') hs hg
  · rw [hl] at e1; cases e1
theorem bpop {Q : Value → Shared → Prop} (F : Fr h₀ L s.heap m) (N : News h₀ L s.heap news) (U : UpdF d o news u) (hB : BObj w o D) (hsz : D.length ≤ 16777216) (hl : (getB D k).isSome = true)
    (h : ∀ h' o' v, Fr h₀ L h' m → News h₀ L h' (u o') → BObj w o' (delB D k) → Q v { s with heap := h', toks := s.toks + 1 }) : wpAny (model PG w) A (call (.builtin "dict.pop") [.ref d, .bytes k.toArray t]) Q E s := by
  obtain ⟨kvs, hd, hk⟩ := hB
  obtain ⟨own, rest, rfl, hg, h1, h2⟩ := U.split
  have hm := N (d, o) (List.mem_append_right _ (.head _))
  have hD : s.heap.DictOf (bytesKind PG w) d kvs := Heap.dictOf_iff.mpr ⟨o, hm.1, hd⟩
  rcases hk.at k with ⟨v', t', e1, e2⟩ | ⟨e1, e2⟩
  · refine call_meetsIn PySem.F.slot_dict_pop hD.typeIs PySem.F.entry_dict_pop (PySem.F.args_dict_pop_2 _ _) (meets_dict_pop_there (bytesKind PG w) d key_is [] (.inl rfl) rfl) ⟨kvs, _, hD, (by rw [hk.length, sizeLine_eq]; exact hsz), e2, fun h' hmm hs => ?_⟩
    obtain ⟨o', ho', hd'⟩ := Heap.dictOf_iff.mp hmm
    exact h h' o' _ (F.change hs hm.2.1 hm.2.2) (hg o' ▸ N.setIn h1 h2 hs ho') ⟨_, hd', hk.without k⟩
  · rw [e1] at hl; cases hl
theorem bpop_none {Q : Value → Shared → Prop} (hh : A.handled = none) (F : Fr h₀ L s.heap m) (N : News h₀ L s.heap news) (hp : (d, o) ∈ news) (hB : BObj w o D) (lo : (d == sysModules) = false) (hl : getB D k = none)
    (h : ∀ h' e, Heap.NewExc s.heap h' e "KeyError" → E (.ref e) { s with heap := h', toks := s.toks + 1 }) : wpAny (model PG w) A (call (.builtin "dict.pop") [.ref d, .bytes k.toArray t]) Q E s := by
  obtain ⟨kvs, hd, hk⟩ := hB
  have hD := kda_dict N hp hd
  rcases hk.at k with ⟨v', t', e1, e2⟩ | ⟨e1, e2⟩
  · rw [hl] at e1; cases e1
  · exact call_meetsIn PySem.F.slot_dict_pop hD.typeIs PySem.F.entry_dict_pop (PySem.F.args_dict_pop_2 _ _) (meets_dict_pop_missing (bytesKind PG w) d key_is lo rfl) ⟨hh, kvs, hD, e2, h⟩
end
noncomputable abbrev refsDict (w : World) (t1 t2 : Tok) (dg dp : Addr) : Obj := dictOf [⟨PyData.keyHash w.params "_refs", .str "_refs" t1, .ref dg⟩, ⟨PyData.keyHash w.params "_peeled", .str "_peeled" t2, .ref dp⟩] 2
structure RefsAt (w : World) (base : Heap) (fs : List Env) (h : Heap) (r dg : Addr) (D : DD) : Prop where
  ex : ∃ dx dp t1 t2 o, h.get? r = some (instObj 281 dx) ∧ h.get? dx = some (refsDict w t1 t2 dg dp) ∧ h.get? dg = some o ∧ BObj w o D ∧ base.get? r = none ∧ base.get? dx = none ∧ base.get? dg = none ∧ ∀ b ∈ frs fs, b ∉ [dg, r, dx]
  lo : (dg == sysModules) = false
theorem RefsAt.keep {w : World} {base h h' : Heap} {fs : List Env} {r dg : Addr} {D : DD} (R : RefsAt w base fs h r dg D) (k : KeepAll h h') : RefsAt w base fs h' r dg D := by
  obtain ⟨⟨dx, dp, t1, t2, o, a, b, c, x⟩, lo⟩ := R
  exact ⟨⟨dx, dp, t1, t2, o, k _ _ a, k _ _ b, k _ _ c, x⟩, lo⟩
theorem not_bobj {w : World} {t1 t2 : Tok} {dg dp : Addr} {D : DD} (h : BObj w (refsDict w t1 t2 dg dp) D) : False := by
  obtain ⟨kvs, ⟨es, ep, he, hd, hk, hp, hn⟩, _⟩ := h
  cases hd
  obtain ⟨k, h1, _⟩ := hk _ (Array.mem_of_getElem? (i := 0) rfl)
  simp [bytesKind, isBytes] at h1
theorem FramesOk.hide {h : Heap} {hs : List Addr} : ∀ {l : List Env}, FramesOk h l → (∀ b ∈ frs l, b ∉ hs) → FramesOk (hideAll h hs) l
  | [], _, _ => trivial
  | env :: r, ⟨hk, ⟨L, o, hf, ho, hd⟩, hr⟩, hn => ⟨hk, ⟨L, o, hf, hideAll_get _ ho (hn L (List.mem_filterMap.mpr ⟨env, .head _, hf⟩)), hd⟩, FramesOk.hide hr fun b hb => hn b (by
      obtain ⟨e, he, h2⟩ := List.mem_filterMap.mp hb
      exact List.mem_filterMap.mpr ⟨e, .tail _ he, h2⟩)⟩
theorem keep_base {base g h : Heap} {L : Addr} {m : Str → Option Value} (F : Fr g L h m) (k : KeepAll base g) : KeepAll base h := fun b o e => F.keep b o (k b o e)
inductive Opened (w : World) (base h h₁ : Heap) (fs : List Env) (r dg L : Addr) (D : DD) (m : Str → Option Value) (K : Frag) (mg mb : Str → Option Value) (p : Program) (loose : List Str) (mean : ExcName → Option Value) : Prop
  | mk (dx dp : Addr) (t1 t2 : Tok) (o : Obj) (h1 : Fr (hideAll h [dg, r, dx]) L h₁ m) (h2 : News (hideAll h [dg, r, dx]) L h₁ [(dg, o), (r, instObj 281 dx), (dx, refsDict w t1 t2 dg dp)]) (h3 : K.In (hideAll h [dg, r, dx])) (h4 : Top p loose mean mg mb (hideAll h [dg, r, dx])) (h5 : BObj w o D) (h6 : (dg == sysModules) = false) (h7 : r ≠ dg) (h8 : dx ≠ dg) (h9 : r ≠ dx) (h10 : h.get? dg = some o) (h11 : h.get? r = some (instObj 281 dx)) (h12 : h.get? dx = some (refsDict w t1 t2 dg dp)) (h13 : KeepAll base (hideAll h [dg, r, dx])) (h14 : (∀ b ∈ frs fs, b ∉ [dg, r, dx]))
theorem RefsAt.open {w : World} {base h h₁ : Heap} {fs : List Env} {r dg L : Addr} {D : DD} {m : Str → Option Value} {K : Frag} {mg mb : Str → Option Value} {p : Program} {loose : List Str} {mean : ExcName → Option Value} (R : RefsAt w base fs h r dg D) (F : Fr h L h₁ m) (X : K.In base) (T : Top p loose mean mg mb base) (hb : KeepAll base h) : Opened w base h h₁ fs r dg L D m K mg mb p loose mean := by
  obtain ⟨⟨dx, dp, t1, t2, o, a, b, c, x, n1, n2, n3, sp⟩, lo⟩ := R
  have hk : KeepAll base (hideAll h [dg, r, dx]) := fun b' o' e => hideAll_get _ (hb b' o' e) fun hm => by
    rcases List.mem_cons.mp hm with rfl | hm
    · rw [n3] at e; cases e
    rcases List.mem_cons.mp hm with rfl | hm
    · rw [n1] at e; cases e
    · rw [List.mem_singleton.mp hm, n2] at e; cases e
  refine ⟨dx, dp, t1, t2, o, fr_hide _ F, ?_, X.keeps hk, T.keeps hk, x, lo, ?_, ?_, ?_, c, a, b, hk, sp⟩
  · have hne : ∀ b' o', h.get? b' = some o' → b' ≠ L := fun b' o' e q => absurd (Nat.lt_of_lt_of_le (Heap.lt_size e) F.above) (q ▸ Nat.lt_irrefl _)
    intro q hq
    rcases List.mem_cons.mp hq with rfl | hq
    · exact ⟨F.keep _ _ c, hne _ _ c, hideAll_none _ (.head _)⟩
    rcases List.mem_cons.mp hq with rfl | hq
    · exact ⟨F.keep _ _ a, hne _ _ a, hideAll_none _ (.tail _ (.head _))⟩
    · rw [List.mem_singleton.mp hq]
      exact ⟨F.keep _ _ b, hne _ _ b, hideAll_none _ (.tail _ (.tail _ (.head _)))⟩
  · rintro rfl
    rw [a] at c; cases c
    obtain ⟨kvs, ⟨es, ep, he, hd, _⟩, _⟩ := x
    cases hd
  · rintro rfl
    rw [b] at c; cases c
    exact not_bobj x
  · rintro rfl
    rw [a] at b; cases b
section
variable {w : World} {base h h₁ g : Heap} {fs : List Env} {r dg dx dp L : Addr} {t1 t2 : Tok} {D D' : DD} {m : Str → Option Value} {news : List (Addr × Obj)} {o o' : Obj}
theorem refs_keep (F : Fr (hideAll h [dg, r, dx]) L h₁ m) (N : News g L h₁ news) (m1 : (dg, o) ∈ news) (m2 : (r, instObj 281 dx) ∈ news) (m3 : (dx, refsDict w t1 t2 dg dp) ∈ news)
    (e1 : h.get? dg = some o) (e2 : h.get? r = some (instObj 281 dx)) (e3 : h.get? dx = some (refsDict w t1 t2 dg dp)) : KeepAll h h₁ := fun b ob e => by
  by_cases h1 : b ∈ [dg, r, dx]
  · rcases List.mem_cons.mp h1 with rfl | h1
    · rw [e1] at e; cases e; exact (N _ m1).1
    rcases List.mem_cons.mp h1 with rfl | h1
    · rw [e2] at e; cases e; exact (N _ m2).1
    · rw [List.mem_singleton.mp h1] at e ⊢; rw [e3] at e; cases e; exact (N _ m3).1
  · exact F.keep b ob (hideAll_get _ e h1)
theorem refs_turn (F : Fr (hideAll h [dg, r, dx]) L h₁ m) (N : News g L h₁ news) (m2 : (r, instObj 281 dx) ∈ news) (m3 : (dx, refsDict w t1 t2 dg dp) ∈ news)
    (e2 : h.get? r = some (instObj 281 dx)) (e3 : h.get? dx = some (refsDict w t1 t2 dg dp)) : Keep [dg] h h₁ := fun b ob n e => by
  by_cases h1 : b ∈ [dg, r, dx]
  · rcases List.mem_cons.mp h1 with rfl | h1
    · exact absurd (.head _) n
    rcases List.mem_cons.mp h1 with rfl | h1
    · rw [e2] at e; cases e; exact (N _ m2).1
    · rw [List.mem_singleton.mp h1] at e ⊢; rw [e3] at e; cases e; exact (N _ m3).1
  · exact F.keep b ob (hideAll_get _ e h1)
theorem refs_at (F : Fr g L h₁ m) (N : News g L h₁ news) (hbg : KeepAll base g) (m1 : (dg, o) ∈ news) (m2 : (r, instObj 281 dx) ∈ news) (m3 : (dx, refsDict w t1 t2 dg dp) ∈ news) (hB : BObj w o D) (lo : (dg == sysModules) = false)
    (sp : ∀ b ∈ frs fs, b ∉ [dg, r, dx]) : RefsAt w base fs h₁ r dg D := by
  have fresh : ∀ p ∈ news, base.get? p.1 = none := fun p hp => by
    cases q : base.get? p.1 with
    | none => rfl
    | some ob => have := hbg _ _ q; rw [(N p hp).2.2] at this; cases this
  exact ⟨⟨dx, dp, t1, t2, o, (N _ m2).1, (N _ m3).1, (N _ m1).1, hB, fresh _ m2, fresh _ m3, fresh _ m1, sp⟩, lo⟩
theorem sep_cons {env : Env} (N : News g L h₁ news) (hf : env.frame = some L) (m1 : (dg, o) ∈ news) (m2 : (r, instObj 281 dx) ∈ news) (m3 : (dx, refsDict w t1 t2 dg dp) ∈ news) (sp : ∀ b ∈ frs fs, b ∉ [dg, r, dx]) : ∀ b ∈ frs (env :: fs), b ∉ [dg, r, dx] := fun b hb => by
  obtain ⟨e, he, h2⟩ := List.mem_filterMap.mp hb
  rcases List.mem_cons.mp he with rfl | he
  · rw [hf] at h2; cases h2
    intro hm
    rcases List.mem_cons.mp hm with rfl | hm
    · exact (N _ m1).2.1 rfl
    rcases List.mem_cons.mp hm with rfl | hm
    · exact (N _ m2).2.1 rfl
    · rw [List.mem_singleton.mp hm] at N; exact (N _ m3).2.1 rfl
  · exact sp b (List.mem_filterMap.mpr ⟨e, he, h2⟩)
end
end
example : ∀ w A s Q E, TZ w A s Q E → TZ w A s Q E := by intro w A s Q E h; w_top off; first | (walk1; fail) | exact h
section
theorem refs_at2 {w : World} {base h₁ g : Heap} {fs : List Env} {r dg dx dp L : Addr} {t1 t2 : Tok} {D : DD} {m : Str → Option Value} {news : List (Addr × Obj)} {o : Obj} (sp : ∀ b ∈ frs fs, b ∉ [dg, r, dx]) (F : Fr g L h₁ m) (N : News g L h₁ news) (hbg : KeepAll base g) (m1 : (dg, o) ∈ news) (m2 : (r, instObj 281 dx) ∈ news) (m3 : (dx, refsDict w t1 t2 dg dp) ∈ news) (hB : BObj w o D) (lo : (dg == sysModules) = false) : RefsAt w base fs h₁ r dg D := refs_at F N hbg m1 m2 m3 hB lo sp
theorem len_drop {b : Bts} {n k : Nat} (h : b.length ≤ n) : (b.drop k).length ≤ n := by rw [List.length_drop]; omega
noncomputable abbrev rp : Bts := [114, 101, 102, 58, 32]
theorem sliceB_rp (b : Bts) : sliceB b (some ((List.length [(114 : UInt8), 101, 102, 58, 32] : Nat) : Int)) none = b.drop 5 := sliceB_from b 5
noncomputable def ValsOk (D : DD) : Prop := ∀ k v, getB D k = some v → v ≠ [] ∧ v.length ≤ 64
theorem vals_len {D : DD} {k v : Bts} (h : ValsOk D) (e : getB D k = some v) : v.length ≤ 16777216 := Nat.le_trans (h k v e).2 (by decide)
section
variable {w : World} {A : Around} {E : Value → Shared → Prop} {s : Shared} {b c : Bts} {t u : Tok}
theorem truthy_V {D : DD} {k v : Bts} {Q : Bool → Shared → Prop} (hV : ValsOk D) (e : getB D k = some v) (h : ∀ k, Q true { s with toks := k }) : wpAny (model PG w) A (truthy (.bytes v.toArray t)) Q E s := by
  refine truthy_L (vals_len hV e) fun k => ?_
  have : v.isEmpty = false := by
    cases q : v with
    | nil => exact absurd q (hV _ _ e).1
    | cons _ _ => rfl
  rw [this]; exact h k
theorem truthy_N {Q : Bool → Shared → Prop} (e : b.isEmpty = false) (hz : b.length ≤ 16777216) (h : ∀ k, Q true { s with toks := k }) : wpAny (model PG w) A (truthy (.bytes b.toArray t)) Q E s :=
  truthy_L hz fun k => by rw [e]; exact h k
theorem call_starts_y {Q : Value → Shared → Prop} (e : c.isPrefixOf b = true) (h : Q (.bool true) s) : wpAny (model PG w) A (call (.builtin "bytes.startswith") [.bytes b.toArray t, .bytes c.toArray u]) Q E s :=
  call_starts (e ▸ h)
theorem call_starts_n {Q : Value → Shared → Prop} (e : c.isPrefixOf b = false) (h : Q (.bool false) s) : wpAny (model PG w) A (call (.builtin "bytes.startswith") [.bytes b.toArray t, .bytes c.toArray u]) Q E s :=
  call_starts (e ▸ h)
variable {h₀ : Heap} {L : Addr} {m : Str → Option Value} {news : List (Addr × Obj)} {value slice : PySem.Expr} {Q : Value → Shared → Prop} {tl : Tok}
theorem slice_RP (hF : Fr h₀ L s.heap m) (hN : News h₀ L s.heap news) (hz : b.length ≤ 16777216)
    (h : ∀ h' t' k, Fr h₀ L h' m → News h₀ L h' news → Q (.bytes (b.drop 5).toArray t') { s with heap := h', toks := k })
    (hs : subscripted slice false (.bytes b.toArray t) (.ref s.heap.objs.size) = operate [.ref s.heap.objs.size, .bytes b.toArray t] (getItem (.bytes b.toArray t) (.ref s.heap.objs.size)) := by with_unfolding_all rfl)
    (ht : ∀ r, letTemporaryGo value (.bytes b.toArray t) r = pure () := by intro _; with_unfolding_all rfl) :
    wpAny (model PG w) A (subscriptTail value slice (.bytes b.toArray t) (.ref s.heap.objs.size)) Q E { s with heap := s.heap.push { cls := .type "slice", data := .fields #[.int ((List.length [(114 : UInt8), 101, 102, 58, 32] : Nat) : Int) tl, .none, .none] } } :=
  slice_L hF hN (by constructor) (by constructor) hz (fun h' t' k a b' => by rw [sliceB_rp]; exact h h' t' k a b') hs ht
theorem slice_RPc {k : Bts} (hF : Fr h₀ L s.heap m) (hN : News h₀ L s.heap news) (hz : (114 :: 101 :: 102 :: 58 :: 32 :: k).length ≤ 16777216)
    (h : ∀ h' t' n, Fr h₀ L h' m → News h₀ L h' news → Q (.bytes k.toArray t') { s with heap := h', toks := n })
    (hs : subscripted slice false (.bytes (114 :: 101 :: 102 :: 58 :: 32 :: k).toArray t) (.ref s.heap.objs.size) = operate [.ref s.heap.objs.size, .bytes (114 :: 101 :: 102 :: 58 :: 32 :: k).toArray t] (getItem (.bytes (114 :: 101 :: 102 :: 58 :: 32 :: k).toArray t) (.ref s.heap.objs.size)) := by with_unfolding_all rfl)
    (ht : ∀ r, letTemporaryGo value (.bytes (114 :: 101 :: 102 :: 58 :: 32 :: k).toArray t) r = pure () := by intro _; with_unfolding_all rfl) :
    wpAny (model PG w) A (subscriptTail value slice (.bytes (114 :: 101 :: 102 :: 58 :: 32 :: k).toArray t) (.ref s.heap.objs.size)) Q E { s with heap := s.heap.push { cls := .type "slice", data := .fields #[.int ((List.length [(114 : UInt8), 101, 102, 58, 32] : Nat) : Int) tl, .none, .none] } } :=
  slice_RP hF hN hz h hs ht
end
theorem news_more {g h' h : Heap} {L d : Addr} {m : Str → Option Value} {news : List (Addr × Obj)} {o : Obj} (F : Fr g L h m) (N : News g L h' news) (e : h'.get? d = some o) (n : h.get? d = none) : News g L h' ((d, o) :: news) := fun p hp => by
  rcases List.mem_cons.mp hp with rfl | hp
  · refine ⟨e, ?_, ?_⟩
    · rintro rfl
      obtain ⟨oL, _, _, hL, _⟩ := F.ns
      rw [n] at hL; cases hL
    · cases q : g.get? d with
      | none => rfl
      | some ob => have := F.keep _ _ q; rw [n] at this; cases this
  · exact N p hp
noncomputable def Stop (p : Prop) : Prop := p
section
variable {prog : Program} {w : World} {A : Around} {E : Value → Shared → Prop} {env : Env} {test : PySem.Expr} {body orelse : List Stmt} {Q : Flow → Shared → Prop} {s : Shared} {k : Nat}
theorem whl_stop {pos : Pos} (h : Stop (WhlRest prog w A E env test body orelse Q 0 s)) : wpAny (model prog w) A (exec (.While test body orelse pos) env) Q E s := whl_start 0 h
theorem post_next (h : Stop (WhlRest prog w A E env test body orelse Q k s)) : WhlPost prog w A E env test body orelse Q k .next s := h
theorem post_cont (h : Stop (WhlRest prog w A E env test body orelse Q k s)) : WhlPost prog w A E env test body orelse Q k .cont s := h
theorem whlif_both {b : Bool} {T F : Prop} (t : b = true → T) (f : b = false → F) : WhlIf b T F := by
  cases b with
  | true => exact WhlIf.yes rfl (t rfl)
  | false => exact WhlIf.no rfl (f rfl)
end
theorem Fr.to {g h : Heap} {L : Addr} {m m' : Str → Option Value} (F : Fr g L h m) (e : ∀ y, m y = m' y) : Fr g L h m' := (funext e : m = m') ▸ F
section
variable {prog : Program} {w : World} {A : Around} {E : Value → Shared → Prop} {env : Env} {test : PySem.Expr} {body orelse : List Stmt} {Q : Flow → Shared → Prop}
theorem whl_ind (J : Nat → Shared → Prop) {k : Nat} (h : ∀ n s, J n s → (∀ n' s' k', n' < n → J n' s' → WhlRest prog w A E env test body orelse Q k' s') → WhlRest prog w A E env test body orelse Q (k + 1) s) {n : Nat} {s : Shared} (h0 : J n s) : WhlRest prog w A E env test body orelse Q k s := by
  have : ∀ n s k', J n s → WhlRest prog w A E env test body orelse Q k' s := fun n => by
    induction n using Nat.strongRecOn with
    | _ n ih => exact fun s k' hJ => h n s hJ fun n' s' k'' lt hJ' => ih n' lt s' k'' hJ'
  exact this n s k h0
end
noncomputable def isRef (v : Bts) : Bool := rp.isPrefixOf v
noncomputable def followD (D : DD) : Nat → Bts → Option (List Bts × Option Bts)
  | 0, _ => none
  | f + 1, n => match getB D n with
    | none => some ([n], none)
    | some v => if f = 0 then none else if isRef v then (followD D f (v.drop 5)).map fun p => (n :: p.1, p.2) else some ([n], some v)
noncomputable def followC (D : DD) (f : Nat) (pre : List Bts) (c : Bts) : Option (List Bts × Option Bts) :=
  if isRef c then (followD D f (c.drop 5)).map fun p => (pre ++ p.1, p.2) else some (pre, some c)
theorem followC_none {D : DD} {f : Nat} {pre : List Bts} {c : Bts} (hc : isRef c = true) (h : getB D (c.drop 5) = none) : followC D (f + 1) pre c = some (pre ++ [c.drop 5], none) := by
  simp [followC, hc, followD, h]
theorem followC_step {D : DD} {f : Nat} {pre : List Bts} {c v : Bts} (hc : isRef c = true) (h : getB D (c.drop 5) = some v) : followC D (f + 2) pre c = followC D (f + 1) (pre ++ [c.drop 5]) v := by
  simp only [followC, hc, if_true]
  rw [followD, h]
  simp only [Nat.add_eq_zero_iff, Nat.succ_ne_zero, and_false, if_false]
  cases isRef v with
  | false => simp
  | true => simp only [if_true, Option.map_map]; congr 1; funext p; simp
theorem followC_out {D : DD} {pre : List Bts} {c v : Bts} (hc : isRef c = true) (h : getB D (c.drop 5) = some v) : followC D 1 pre c = none := by
  simp [followC, hc, followD, h]
theorem followC_end {D : DD} {f : Nat} {pre : List Bts} {c : Bts} (hc : isRef c = false) : followC D f pre c = some (pre, some c) := by simp [followC, hc]
theorem followC_start {D : DD} {f : Nat} {k : Bts} : followC D f [] (rp ++ k) = followD D f k := by
  have : isRef (rp ++ k) = true := rfl
  simp only [followC, this, if_true]
  show (followD D f k).map _ = _
  simp
end
example : ∀ w A s Q E, TZ w A s Q E → TZ w A s Q E := by intro w A s Q E h; w_top off; first | (walk1; fail) | exact h
section
def gC2.siteTag : Unit := ()
open gC2
section
variable {p9 : Program} {lo9 : List Str} {w : World} {A : Around} {s : Shared} {base : Heap} {mg mb : Str → Option Value} {mean : ExcName → Option Value} {Q E : Value → Shared → Prop}
set_option maxHeartbeats 4000000 in
theorem spec_Ref {v : Value} (X : (hd.heap_1 w.params).In base) (T : Top p9 lo9 mean mg mb base) (hb : KeepAll base s.heap) (hroom : A.depth + 2 < recursionLimit) (hun : A.units + 20 < cLine) (hhd : A.handled = none)
    (h : ∀ h' tk', KeepAll s.heap h' → Q v { s with heap := h', toks := tk' }) : wpAny (model PG w) A (call (.ref 67) [v]) Q E s := by
  refine wpAny_call ?_
  refine' enter_def (binds := [(Str.ofString "octets", v)]) (X.keeps hb) (T.keeps hb) ?k6 ?k7 ?k8 ?k9 ?kB ?_ ?c2 ?c3 ?c4 ?c5
  case k6 => k_is
  case k7 => k_is
  case k8 => omega
  case k9 => exact BindsTo.of_eq rfl
  case kB => exact locs rfl
  case c2 => exact rfl
  case c3 => exact rfl
  case c4 => exact rfl
  case c5 => decide
  intro L' h' hL F'
  have N' : News s.heap L' h' [] := News.nil
  have X' := X.keeps hb
  have T' := T.keeps hb
  clear X T
  (try dsimp only)
  (try k_fold)
  k_steps
  exact h _ _ (Fr.keep (by k_asm))
set_option maxHeartbeats 4000000 in
theorem spec_Obj {v : Value} (X : (hd.heap_1 w.params).In base) (T : Top p9 lo9 mean mg mb base) (hb : KeepAll base s.heap) (hroom : A.depth + 2 < recursionLimit) (hun : A.units + 20 < cLine) (hhd : A.handled = none)
    (h : ∀ h' tk', KeepAll s.heap h' → Q v { s with heap := h', toks := tk' }) : wpAny (model PG w) A (call (.ref 53) [v]) Q E s := by
  refine wpAny_call ?_
  refine' enter_def (binds := [(Str.ofString "octets", v)]) (X.keeps hb) (T.keeps hb) ?k6 ?k7 ?k8 ?k9 ?kB ?_ ?c2 ?c3 ?c4 ?c5
  case k6 => k_is
  case k7 => k_is
  case k8 => omega
  case k9 => exact BindsTo.of_eq rfl
  case kB => exact locs rfl
  case c2 => exact rfl
  case c3 => exact rfl
  case c4 => exact rfl
  case c5 => decide
  intro L' h' hL F'
  have N' : News s.heap L' h' [] := News.nil
  have X' := X.keeps hb
  have T' := T.keeps hb
  clear X T
  (try dsimp only)
  (try k_fold)
  k_steps
  exact h _ _ (Fr.keep (by k_asm))
set_option maxHeartbeats 4000000 in
theorem spec_loose {k : Bts} {t : Tok} {fs : List Env} {r dg : Addr} {D : DD} (X : (hd.heap_1 w.params).In base) (T : Top p9 lo9 mean mg mb base) (hb : KeepAll base s.heap) (hroom : A.depth + 2 < recursionLimit) (hun : A.units + 20 < cLine) (hhd : A.handled = none) (hR : RefsAt w base fs s.heap r dg D)
    (h : ∀ v t' h' tk', getB D k = some v → KeepAll s.heap h' → Q (.bytes v.toArray t') { s with heap := h', toks := tk' })
    (hn : ∀ h' tk', getB D k = none → KeepAll s.heap h' → Q .none { s with heap := h', toks := tk' }) :
    wpAny (model PG w) A (call (.ref 236) [.ref r, .bytes k.toArray t]) Q E s := by
  refine wpAny_call ?_
  refine' enter_def (binds := [(Str.ofString "self", Value.ref r), (Str.ofString "name", Value.bytes k.toArray t)]) (X.keeps hb) (T.keeps hb) ?k6 ?k7 ?k8 ?k9 ?kB ?_ ?c2 ?c3 ?c4 ?c5
  case k6 => k_is
  case k7 => k_is
  case k8 => omega
  case k9 => exact BindsTo.of_eq rfl
  case kB => exact locs rfl
  case c2 => exact rfl
  case c3 => exact rfl
  case c4 => exact rfl
  case c5 => decide
  intro L' h' hL F'
  obtain ⟨dx, dp, t1, t2, o, F1, N1, X1, T1, hB, lo, n1, n2, n3, e1, e2, e3, hbg, sp⟩ := hR.open F' X T hb
  clear F'
  (try dsimp only)
  (try k_fold)
  k_steps
  · exact h _ _ _ _ (by k_asm) (by ktr_rel)
  · exact hn _ _ (by k_asm) (by ktr_rel)
set_option maxHeartbeats 4000000 in
theorem spec_packed {r : Addr} (X : (hd.heap_1 w.params).In base) (T : Top p9 lo9 mean mg mb base) (hb : KeepAll base s.heap) (hroom : A.depth + 2 < recursionLimit) (hun : A.units + 20 < cLine) (hhd : A.handled = none)
    (h : ∀ d o h' tk', KeepAll s.heap h' → h'.get? d = some o → s.heap.get? d = none → BObj w o [] → (d == sysModules) = false → Q (.ref d) { s with heap := h', toks := tk' }) :
    wpAny (model PG w) A (call (.ref 243) [.ref r]) Q E s := by
  refine wpAny_call ?_
  refine' enter_def (binds := [(Str.ofString "self", Value.ref r)]) (X.keeps hb) (T.keeps hb) ?k6 ?k7 ?k8 ?k9 ?kB ?_ ?c2 ?c3 ?c4 ?c5
  case k6 => k_is
  case k7 => k_is
  case k8 => omega
  case k9 => exact BindsTo.of_eq rfl
  case kB => exact locs rfl
  case c2 => exact rfl
  case c3 => exact rfl
  case c4 => exact rfl
  case c5 => decide
  intro L' h' hL F'
  have N' : News s.heap L' h' [] := News.nil
  have X' := X.keeps hb
  have T' := T.keeps hb
  clear X T
  (try dsimp only)
  (try k_fold)
  k_steps
  exact h _ _ _ _ (Fr.keep (by k_asm)) (News.get (by k_asm) (by k_mem)) (News.fresh (by k_asm) (by k_mem)) (BObj.new (by k_asm)) (by k_asm)
example : True := by
  k_with "gC2 call ref" => (k_here; (try dsimp only [List.nil_append, List.cons_append, List.append_nil]); (with_reducible show wpAny _ _ (call (Value.ref 236) _) _ _ _); k_dflt (refine' spec_loose ?sX ?sT ?sb ?sr ?su ?sh ?sR ?_ ?_; (case sb => exact keep_base (by k_asm) (by k_asm)); (case sX => k_asm); (case sT => k_asm); (case sr => k_room); (case su => k_units); (case sh => k_asm); (case sR => ktr_unf)); (all_goals first | ((with_reducible intro v' t' h' tk' hgv' kk'); (have F' := fr_keepAll (by k_asm) kk'); (have N' := news_keepAll (by k_asm) kk'); (try k_sweep)) | ((with_reducible intro h' tk' hgn' kk'); (have F' := fr_keepAll (by k_asm) kk'); (have N' := news_keepAll (by k_asm) kk'); (try k_sweep))))
  k_with "gC2 call ref" => (k_here; (try dsimp only [List.nil_append, List.cons_append, List.append_nil]); (with_reducible show wpAny _ _ (call (Value.ref 243) _) _ _ _); k_dflt (refine' spec_packed ?sX ?sT ?sb ?sr ?su ?sh ?_; (case sb => exact keep_base (by k_asm) (by k_asm)); (case sX => k_asm); (case sT => k_asm); (case sr => k_room); (case su => k_units); (case sh => k_asm)); (all_goals first | ((with_reducible intro d' o' h' tk' kk' ed' nd' bd' ld'); (have N' := news_more (by k_asm) (news_keepAll (by k_asm) kk') ed' nd'); (have F' := fr_keepAll (by k_asm) kk'); (try k_sweep))))
  trivial
set_option maxHeartbeats 4000000 in
theorem spec_read {k : Bts} {t : Tok} {fs : List Env} {r dg : Addr} {D : DD} (X : (hd.heap_1 w.params).In base) (T : Top p9 lo9 mean mg mb base) (hb : KeepAll base s.heap) (hroom : A.depth + 4 < recursionLimit) (hun : A.units + 40 < cLine) (hhd : A.handled = none) (hR : RefsAt w base fs s.heap r dg D) (hV : ValsOk D)
    (h : ∀ v t' h' tk', getB D k = some v → KeepAll s.heap h' → Q (.bytes v.toArray t') { s with heap := h', toks := tk' })
    (hn : ∀ h' tk', getB D k = none → KeepAll s.heap h' → Q .none { s with heap := h', toks := tk' }) :
    wpAny (model PG w) A (call (.ref 159) [.ref r, .bytes k.toArray t]) Q E s := by
  refine wpAny_call ?_
  refine' enter_def (binds := [(Str.ofString "self", Value.ref r), (Str.ofString "refname", Value.bytes k.toArray t)]) (X.keeps hb) (T.keeps hb) ?k6 ?k7 ?k8 ?k9 ?kB ?_ ?c2 ?c3 ?c4 ?c5
  case k6 => k_is
  case k7 => k_is
  case k8 => omega
  case k9 => exact BindsTo.of_eq rfl
  case kB => exact locs rfl
  case c2 => exact rfl
  case c3 => exact rfl
  case c4 => exact rfl
  case c5 => decide
  intro L' h' hL F'
  obtain ⟨dx, dp, t1, t2, o, F1, N1, X1, T1, hB, lo, n1, n2, n3, e1, e2, e3, hbg, sp⟩ := hR.open F' X T hb
  clear F'
  (try dsimp only)
  (try k_fold)
  k_steps
  · exact h _ _ _ _ (by k_asm) (by ktr_rel)
  · exact absurd (by assumption : getB [] k = some _) (by simp [getB])
  · exact hn _ _ (by k_asm) (by ktr_rel)
end
end
example : ∀ w A s Q E, TZ w A s Q E → TZ w A s Q E := by intro w A s Q E h; w_top off; first | (walk1; fail) | exact h
section
open Builtin Builtin.ObjectAttr
theorem ns_some_of {K : Frag} {h : Heap} {N : Addr} {mg : Str → Option Value} {n : Str} {v : Value} (X : K.In h) (G : h.Ns N mg) (e : nsIn K N n = some (some v)) : mg n = some v := by
  obtain ⟨o, es, ep, ho, hd, _, hf⟩ := G
  unfold nsIn at e
  split at e
  · rename_i q
    have := X _ _ q
    rw [ho] at this
    cases this
    cases hd
    split at e
    · rename_i en he
      cases e
      rw [← hf]
      unfold nsFind findBy
      rw [← Array.find?_toList, he]
      rfl
    · split at e <;> cases e
  · cases e
theorem ok_of {K : Frag} {N : Addr} {c : Value} {d : Option Addr} {es : Array DictEntry} {n : Nat} {sl : Array (Option Value)} (e : K.lookup N = some ⟨c, d, .dict es n, sl⟩) (q : (es.all fun e => match e.key with | .str _ _ => true | _ => false) = true) : nsOkIn K N = true := by
  unfold nsOkIn
  rw [e]; exact q
inductive LoopCls (h : Heap) : Prop
  | mk (nm q : Str) (N : Addr) (bs : List Value) (sn : List Str) (sub : List Value) (ab : Bool) (col : Option Bool) (dd : Option Addr) (k0 k1 k2 k3 k5 : Option Value) (mN : Str → Option Value) (oI : Obj) (hC : h.get? 84 = some (excClassObj nm q 84 N bs [.type "Exception", .type "BaseException", .type "object"] true sn sub ab col dd k0 k1 k2 k3 k5 "Exception.__new__"))
    (hN : h.Ns N mN) (i1 : mN "__init__" = some (.ref 81)) (i2 : mN "__setattr__" = none) (i3 : mN "ref" = none) (i4 : mN "depth" = none) (i5 : h.get? 81 = some oI) (i6 : oI.cls = .type "function")
theorem loop_of {K : Frag} {h : Heap} (X : K.In h) {nm q : Str} {N : Addr} {bs : List Value} {sn : List Str} {sub : List Value} {ab : Bool} {col : Option Bool} {dd : Option Addr} {k0 k1 k2 k3 k5 : Option Value} {oI : Obj}
    (a : K.lookup 84 = some (excClassObj nm q 84 N bs [.type "Exception", .type "BaseException", .type "object"] true sn sub ab col dd k0 k1 k2 k3 k5 "Exception.__new__")) (b : nsOkIn K N = true) (c : nsIn K N "__init__" = some (some (.ref 81)))
    (d : nsIn K N "__setattr__" = some none) (e : nsIn K N "ref" = some none) (f : nsIn K N "depth" = some none) (g : K.lookup 81 = some oI) (i : oI.cls = .type "function") :
    LoopCls h := by
  have G : h.Ns N (h.nsMap N) := .of_isNs (isNs_of_in X b)
  exact ⟨_, _, _, _, _, _, _, _, _, _, _, _, _, _, _, _, X _ _ a, G, ns_some_of X G c, ns_none_of X G d, ns_none_of X G e, ns_none_of X G f, X _ _ g, i⟩
theorem loop_cls {P : Params} {h : Heap} (X : (hd.heap_1 P).In h) : LoopCls h := by
  exact loop_of X (by k_is) (ok_of (by k_is) (by with_unfolding_all rfl)) (by k_is) (by k_is) (by k_is) (by k_is) (by k_is) rfl
section
variable {M : Model} {A : Around} {E : Value → Shared → Prop} {env : Env}
variable {nm q : Str} {C N : Addr} {bs bm : List Value} {hdct : Bool} {sn : List Str} {sub : List Value} {ab : Bool} {col : Option Bool} {dd : Option Addr} {k0 k1 k2 k3 k5 : Option Value} {B newId initId : String}
theorem raiseStmt_inst {s : Shared} {x : Sem Value} {Q : Flow → Shared → Prop} (hbase : bm.contains (.type "BaseException") = true) (hh : A.handled = none)
    (h : wpAny M A x (fun v s₁ => ∃ e oe, v = .ref e ∧ s₁.heap.get? C = some (excClassObj nm q C N bs bm hdct sn sub ab col dd k0 k1 k2 k3 k5 newId) ∧
      s₁.heap.get? e = some oe ∧ oe.cls = .ref C ∧ (∃ t, oe.data = .fields #[.ref t, .none, .none, .none, .bool false, .none]) ∧ E (.ref e) s₁) E s) :
    wpAny M A (raiseStmt env (some x) none) Q E s := by
  have hcB : (Value.ref C :: bm).contains (.type "BaseException") = true := by rw [List.contains_cons, hbase, Bool.or_true]
  unfold raiseStmt
  refine wpAny_bind (wpAny_mono h (fun v s₁ h₁ => ?_) fun _ _ x => x)
  obtain ⟨e, ⟨oc, od, odt, osl⟩, rfl, hC, he, hcl, ⟨tt, hdt⟩, hE⟩ := h₁
  dsimp only at hcl hdt
  subst hcl hdt
  obtain ⟨hp, g, d, tk, os⟩ := s₁
  repeat (first | with_reducible refine wpAny_loadPart_at he ?_ | with_reducible refine wpAny_loadPart_at hC ?_ | (with_reducible refine wpAny_isSubtype_exc hC ?_; rw [hcB]) | wp_step)
  exact wpAny_raiseNew_none hh hE
end
section
variable {prog : Program} {w : World} {A : Around} {E : Value → Shared → Prop} {s : Shared} {env : Env}
variable {nm q : Str} {C N : Addr} {bs bm : List Value} {hdct : Bool} {sn : List Str} {sub : List Value} {ab : Bool} {col : Option Bool} {dd : Option Addr} {k0 k1 k2 k3 k5 : Option Value} {B newId initId : String}
theorem Raise_init (F : ExcBaseFacts B newId initId bm) {mN : Str → Option Value} {x : Str} {np cpos pos : Pos} {args : List PySem.Expr} {fI : Addr} {oI : Obj} {Q : Flow → Shared → Prop}
    (hh : A.handled = none) (hplain : (backTo cpos (starEach args env)).any (·.1) = false) (hi : mN "__init__" = some (.ref fI)) (hfc : oI.cls = .type "function")
    (h : wpAny (model prog w) A (eval (.Name x np) env) (fun f s₁ => f = .ref C ∧ wpAny (model prog w) A (evalArgs (.ref C) true (backTo cpos (starEach args env)) [])
      (fun a s₂ => a.kw = [] ∧ a.pos.length ≤ sizeLine ∧ s₂.heap.get? C = some (excClassObj nm q C N bs bm hdct sn sub ab col dd k0 k1 k2 k3 k5 newId) ∧ s₂.heap.Ns N mN ∧ s₂.heap.get? fI = some oI ∧
        ∀ h' e, Heap.MadeExcOf s₂.heap h' e (.ref C) a.pos → wpAny (model prog w) (A.under (.builtin "type.__call__" ⟨.ref C :: a.pos, []⟩)) (call (.ref fI) (.ref e :: a.pos))
          (fun r s₃ => r = .none ∧ ∃ oe, s₃.heap.get? C = some (excClassObj nm q C N bs bm hdct sn sub ab col dd k0 k1 k2 k3 k5 newId) ∧ s₃.heap.get? e = some oe ∧ oe.cls = .ref C ∧ (∃ t, oe.data = .fields #[.ref t, .none, .none, .none, .bool false, .none]) ∧ E (.ref e) s₃) E { s₂ with heap := h' }) E s₁) E s) :
    wpAny (model prog w) A (exec (.Raise (some (.Call (.Name x np) args [] cpos)) none pos) env) Q E s := by
  rw [arm_exec_Raise]
  refine wpAny_bind (wpAny_standAt (raiseStmt_inst (C := C) (nm := nm) (q := q) (N := N) (bs := bs) (bm := bm) (hdct := hdct) (sn := sn) (sub := sub) (ab := ab) (col := col) (dd := dd) (k0 := k0) (k1 := k1) (k2 := k2) (k3 := k3) (k5 := k5) (newId := newId) F.hasBase hh ?_))
  refine wpAny_bind (wpAny_mono (wpAny_Call_ofName (wpAny_mono h (fun f s₁ h₁ => ?_) fun _ _ x => x)) (fun v s₃ h₃ => wpAny_bind (wpAny_standAt (wpAny_pure h₃))) fun _ _ x => x)
  obtain ⟨rfl, h₁⟩ := h₁
  unfold callWith
  refine wpAny_bind (wpAny_holding (wpAny_mono h₁ (fun a s₂ h₂ => wpAny_bind (wpAny_standAt ?_)) fun _ _ x => x))
  obtain ⟨apos, akw⟩ := a
  obtain ⟨hkw, hlen, hC, hn, hfI, h₂⟩ := h₂
  obtain rfl : akw = [] := hkw
  obtain ⟨hp, g, d, tk, os⟩ := s₂
  simp only [hplain]
  refine wpAny_bind (wpAny_keeperOf_exc hC ?_)
  refine wpAny_bind (wpAny_call_exc_init (hrest := hlen) F hC hn hi hfI hfc fun h' e hm => wpAny_mono (h₂ h' e hm) (fun r s₃ h₃ => ⟨h₃.1, wpAny_bind (wpAny_holding (wpAny_point (wpAny_pure ?_)))⟩) fun _ _ x => x)
  obtain ⟨_, oe, hC', he, hc, hd, hE⟩ := h₃
  exact ⟨e, oe, rfl, hC', he, hc, hd, hE⟩
end
section
variable {prog : Program} {w : World} {A : Around} {E : Value → Shared → Prop} {h : Heap} {g : Array GenState} {d : Drawn} {t : Nat} {os : OsState}
variable {nm q : Str} {C N x : Addr} {bs bm : List Value} {sn : List Str} {sub : List Value} {ab : Bool} {col : Option Bool} {dd : Option Addr} {k0 k1 k2 k3 k5 : Option Value} {B newId sa owner : String}
  {mN : Str → Option Value} {name : Str} {v : Value}
theorem store_first {o : Obj} {Q : Unit → Shared → Prop} (SF : StoreFacts B bm sa owner)
    (hC : h.get? C = some (excClassObj nm q C N bs bm true sn sub ab col dd k0 k1 k2 k3 k5 newId)) (hn : h.Ns N mN) (hns : mN "__setattr__" = none) (hna : mN name = none)
    (hB : typeLookup (.type B) name = pure none) (hx : h.get? x = some o) (hc : o.cls = .ref C) (hnc : ∀ c, o.data ≠ .cls c) (hdn : o.dict = none)
    (hq : ∀ h' tk', h'.get? x = some { cls := o.cls, dict := some h.objs.size, data := o.data, slots := o.slots } → h'.Ns1 h.objs.size (fun y => if y = name then some v else none) →
      (∀ b ob, b ≠ x → h.get? b = some ob → h'.get? b = some ob) → Q () ⟨h', g, d, tk', os⟩) :
    wpAny (model prog w) A (setAttr (.ref x) name v) Q E ⟨h, g, d, t, os⟩ := by
  have f3 := SF.slot.bind (.ref x)
  unfold setAttr callSpecial? specialOf
  repeat (any_goals (first | assumption | (with_reducible refine wpAny_loadPart_at hx ?_; rw [hc]) | (with_reducible refine wpAny_typeLookup_exc hC hn SF.mro SF.slot.lookup ?_; rw [hns]) | wp_step))
  have hpass := SF.passes (.ref x)
  refine codeAny_call_builtin SF.slot.plain SF.entry (wpAny_check_sa SF hC hx hc ?_)
  unfold Builtin.«object.__setattr__»
  repeat (first | rw [refuse_eq] | (rw [refuseLoop_ref, hpass]) | (with_reducible refine wpAny_loadPart_at hx ?_; rw [hc]) | with_reducible refine wpAny_mroOf_exc hC ?_ | (with_reducible refine wpAny_typeLookup_exc hC hn SF.mro hB ?_; rw [hna]) | wp_step)
  rw [hdn, if_neg (by simp [typeHasDict])]
  split
  · rename_i hcd
    cases hcd
  split
  · rename_i c hcd
    exact absurd hcd (hnc c)
  have hx₁ : (h.push { cls := .type "dict", data := .dict #[] }).get? x = some o := Heap.get?_push_of_some _ hx
  have hxs : x ≠ h.objs.size := Nat.ne_of_lt (Heap.lt_size hx)
  refine wpAny_bind (wpAny_alloc' (wpAny_bind (wpAny_update' hx₁ (wpAny_pure ?_))))
  have hgd : ((h.push { cls := .type "dict", data := .dict #[] }).update x fun o => { cls := o.cls, dict := some h.objs.size, data := o.data, slots := o.slots }).get? h.objs.size
      = some { cls := .type "dict", data := .dict #[] } := (Heap.get?_update_ne _ _ _ _ hxs.symm).trans (Heap.get?_push_at rfl rfl)
  show wpAny _ _ (storeInDict h.objs.size (.str name _) name v) _ _ _
  unfold storeInDict newKeyGuard
  refine wpAny_bind (wpAny_pure (wpAny_bind (wpAny_nsSet1 (Heap.Ns1.of_empty ⟨_, #[], _, hgd, rfl, fun e he => absurd he (by simp), fun _ => rfl⟩) fun h' hn' hs => ?_)))
  obtain ⟨oD, esD, epD, hoD, hdD, hcD⟩ := hn'.count (Within.cons name v Within.nil)
  refine wpAny_bind (wpAny_lookBehind hoD (by rw [hdD]; exact pastItsLine_dict (Nat.le_trans hcD (by rw [List.length_cons, List.length_nil, sizeLine_eq]; omega))) ?_)
  repeat (any_goals (first | assumption | wp_step))
  refine hq h' _ ?_ hn' fun b ob hbx hb => (hs.2 b (Nat.ne_of_lt (Heap.lt_size hb))).trans ((Heap.get?_update_ne _ _ _ _ hbx).trans (Heap.get?_push_of_some _ hb))
  refine (hs.2 x hxs).trans (Heap.get?_update_self _ hx₁ ?_)
  have hfr := (Heap.get?_some_iff.mp hx).2
  obtain ⟨oc, od, odt, osl⟩ := o
  cases odt <;> first | rfl | exact hfr
end
end
example : ∀ w A s Q E, TZ w A s Q E → TZ w A s Q E := by intro w A s Q E h; w_top off; first | (walk1; fail) | exact h
section
def gL2.siteTag : Unit := ()
open gL2
theorem loop_look (P : Params) : ∃ o, (hd.heap_1 P).lookup 84 = some o := ⟨_, rfl⟩
theorem fr_but {g h h' : Heap} {L e : Addr} {m : Str → Option Value} (F : Fr g L h m) (hk : ∀ b ob, b ≠ e → h.get? b = some ob → h'.get? b = some ob) (hL : L ≠ e) (hg : g.get? e = none) : Fr g L h' m := by
  obtain ⟨⟨o, es, ep, ho, r⟩, k, a⟩ := F
  exact ⟨⟨o, es, ep, hk _ _ hL ho, r⟩, fun b ob q => hk _ _ (fun hb => by rw [hb, hg] at q; cases q) (k _ _ q), a⟩
noncomputable abbrev loopObj (t : Addr) (d : Option Addr) : Obj := { cls := .ref 84, dict := d, data := .fields #[.ref t, .none, .none, .none, .bool false, .none] }
section
variable {p9 : Program} {lo9 : List Str} {w : World} {A : Around} {s : Shared} {base : Heap} {mg mb : Str → Option Value} {mean : ExcName → Option Value} {Q E : Value → Shared → Prop}
set_option maxHeartbeats 4000000 in
theorem spec_init {e t : Addr} {a b : Value} (X : (hd.heap_1 w.params).In base) (T : Top p9 lo9 mean mg mb base) (hb : KeepAll base s.heap) (hroom : A.depth + 2 < recursionLimit) (hun : A.units + 20 < cLine) (hhd : A.handled = none) (he : s.heap.get? e = some (loopObj t none)) (hne : base.get? e = none)
    (h : ∀ h' tk' d, h'.get? e = some (loopObj t (some d)) → Keep [e] s.heap h' → Q .none { s with heap := h', toks := tk' }) :
    wpAny (model PG w) A (call (.ref 81) [.ref e, a, b]) Q E s := by
  refine wpAny_call ?_
  refine' enter_def (binds := [(Str.ofString "self", Value.ref e), (Str.ofString "ref", a), (Str.ofString "depth", b)]) (X.keeps hb) (T.keeps hb) ?k6 ?k7 ?k8 ?k9 ?kB ?_ ?c2 ?c3 ?c4 ?c5
  case k6 => k_is
  case k7 => k_is
  case k8 => omega
  case k9 => exact BindsTo.of_eq rfl
  case kB => exact locs rfl
  case c2 => exact rfl
  case c3 => exact rfl
  case c4 => exact rfl
  case c5 => decide
  intro L' h' hL F'
  have hb1 : KeepAll base (hideAll s.heap [e]) := fun b' o' q => hideAll_get _ (hb b' o' q) fun hm => by rw [List.mem_singleton.mp hm, hne] at q; cases q
  have hge : (hideAll s.heap [e]).get? e = none := hideAll_none _ (.head _)
  have F1 := fr_hide [e] F'
  have hLe : L' ≠ e := fun q => by have := Heap.lt_size he; rw [← q, hL] at this; exact Nat.lt_irrefl _ this
  have N1 : News (hideAll s.heap [e]) L' h' [] := News.nil
  have X1 := X.keeps hb1
  have T1 := T.keeps hb1
  have hge1 : h'.get? e = some (loopObj t none) := F'.keep _ _ he
  have hF := F'.keep
  clear X T F'
  (try dsimp only)
  (try k_fold)
  k_steps
  obtain ⟨nm, q, N, bs, sn, sub, ab, col, dd, k0, k1, k2, k3, k5, mN, oI, hC, hN, i1, i2, i3, i4, i5, i6⟩ := loop_cls (X1.keeps F1.keep)
  have h84 : (84 : Addr) ≠ e := fun q => by
    obtain ⟨o84, q84⟩ := loop_look w.params; have z := X1 84 _ q84; have z2 : (hideAll s.heap [e]).get? 84 = none := q ▸ hge; rw [z2] at z; cases z
  have hsd : L' < h'.objs.size := by obtain ⟨o, _, _, ho, _⟩ := F1.ns; exact Heap.lt_size ho
  refine store_first PySem.F.store_Exception hC hN i2 i3 (by rw [typeLookup_type, builtinLookup_eq_fast]; kernel_rfl) hge1 rfl (fun c q => by cases q) rfl fun h₂ tk₂ x1 x2 x3 => ?_
  have F2 := fr_but F1 x3 hLe hge
  have N2 : News (hideAll s.heap [e]) L' h₂ [] := News.nil
  have hsz : s.heap.objs.size ≤ h'.objs.size := Nat.le_trans (Nat.le_of_eq hL.symm) (Nat.le_of_lt hsd)
  generalize hd0 : h'.objs.size = d0 at *
  clear F1 N1
  (try dsimp only)
  k_steps
  obtain ⟨nm, q, N, bs, sn, sub, ab, col, dd, k0, k1, k2, k3, k5, mN, oI, hC, hN, i1, i2, i3, i4, i5, i6⟩ := loop_cls (X1.keeps F2.keep)
  have hde : d0 ≠ e := fun q => by have := Heap.lt_size hge1; rw [hd0, ← q] at this; exact Nat.lt_irrefl _ this
  refine store_attr (mA := fun y => if y = Str.ofString "ref" then some a else none) PySem.F.store_Exception hC hN i2 i4 (by rw [typeLookup_type, builtinLookup_eq_fast]; kernel_rfl) h84.symm ⟨_, x1, rfl, (fun c q => by cases q), .inr ⟨d0, rfl, hde, x2⟩⟩ fun h₃ tk₃ y1 y2 y3 => ?_
  have y2' : ∀ b ob, b ≠ e → b ≠ d0 → h₂.get? b = some ob → h₃.get? b = some ob := fun b ob p q r => y2 b ob p (fun o₀ dx u v => by rw [x1] at u; cases u; cases v; exact q) r
  have hgd : ∀ b ob, s.heap.get? b = some ob → b ≠ d0 := fun b ob q r => by have := Heap.lt_size q; rw [r] at this; exact absurd hsz (Nat.not_le_of_lt this)
  obtain ⟨⟨oL, es, ep, ho, rL⟩, kL, aL⟩ := F2
  have F3 : Fr (hideAll s.heap [e]) L' h₃ _ := ⟨⟨oL, es, ep, y2' _ _ hLe (Nat.ne_of_lt hsd) ho, rL⟩, fun b ob q => y2' _ _ (fun hb => by rw [hb, hge] at q; cases q) (hgd _ _ (of_hideAll _ q)) (kL _ _ q), aL⟩
  have N3 : News (hideAll s.heap [e]) L' h₃ [] := News.nil
  obtain ⟨⟨oc, od, odt, osl⟩, z1, z2, z3, z4, z5⟩ := y3 _ x1
  dsimp only at z2 z3 z4
  subst z2 z3 z4
  cases z5 d0 rfl
  k_steps
  exact h _ _ _ z1 fun b ob n q => y2' _ _ (fun r => n (r ▸ .head _)) (hgd _ _ q) (x3 _ _ (fun r => n (r ▸ .head _)) (hF _ _ q))
noncomputable def LoopEnd (base : Heap) (E : Value → Shared → Prop) (vs : List Value) (s : Shared) : Prop :=
  vs.length = 2 ∧ KeepAll base s.heap ∧ ∀ h' tk' e t d, s.heap.get? e = none → h'.get? e = some (loopObj t (some d)) → KeepAll s.heap h' → E (.ref e) { s with heap := h', toks := tk' }
theorem raise_loop {g : Heap} {L a : Addr} {m : Str → Option Value} {name : Str} {scope : Scope} {cd : Value} {np cpos pos : Pos} {Q : Flow → Shared → Prop} {e₀ : PySem.Expr} {rest : List PySem.Expr} (X : (hd.heap_1 w.params).In base) (T : Top p9 lo9 mean mg mb base) (hb : KeepAll base g) (F : Fr g L s.heap m) (hroom : A.depth + 4 < recursionLimit) (hun : A.units + 30 < cLine) (hh : A.handled = none) (ex : nsIn (hd.heap_1 w.params) mainGlobals "SymrefLoop" = some (some (.ref 84)))
    (h : wpAny (model PG w) A (spliced (backTo cpos (starEach (e₀ :: rest) (envOf name scope L a cd)))) (fun vs s₂ => LoopEnd base E vs s₂) E s)
    (he : starEach (e₀ :: rest) (envOf name scope L a cd) = (false, eval e₀ (envOf name scope L a cd)) :: starEach rest (envOf name scope L a cd))
    (hplain : (backTo cpos (starEach rest (envOf name scope L a cd))).any (·.1) = false)
    (hk : scope.kind = .function) (hx : (envOf name scope L a cd).kindOf "SymrefLoop" = some .globalImplicit) :
    wpAny (model PG w) A (exec (.Raise (some (.Call (.Name "SymrefLoop" np) (e₀ :: rest) [] cpos)) none pos) (envOf name scope L a cd)) Q E s := by
  obtain ⟨nm, q, N, bs, sn, sub, ab, col, dd, k0, k1, k2, k3, k5, mN, oI, hC, hN, i1, i2, i3, i4, i5, i6⟩ := loop_cls X
  refine Raise_init (C := 84) (nm := nm) (q := q) (N := N) (bs := bs) (hdct := true) (sn := sn) (sub := sub) (ab := ab) (col := col) (dd := dd) (k0 := k0) (k1 := k1) (k2 := k2) (k3 := k3) (k5 := k5) PySem.F.excBase_Exception hh (by rw [he]; show (false || (backTo cpos (starEach rest (envOf name scope L a cd))).any (·.1)) = false; rw [hplain]; rfl) i1 i6
    (name_K F (X.keeps hb) (topRead_of (T.keeps hb)) ex ⟨rfl, ?_⟩ hk hx)
  rw [he] at h ⊢
  refine Calls.evalArgs_plain (wpAny_mono h (fun vs s₂ h₂ => ?_) fun _ _ y => y)
  obtain ⟨hl, hk2, hE⟩ := h₂
  refine ⟨rfl, by rw [hl, sizeLine_eq]; omega, hk2 _ _ hC, hN.keeps hk2, hk2 _ _ i5, fun h' e hm => ?_⟩
  obtain ⟨t, z1, z2, z3⟩ := hm.there
  obtain ⟨v1, v2, rfl⟩ := two_of hl
  refine spec_init (base := base) X T (fun b o q => hm.keeps _ _ (hk2 _ _ q)) (by dsimp only; rw [depth_under_make]; omega) (by dsimp only; rw [units_under_make]; omega) hh z1 ?_ fun h₃ tk₃ d y1 y2 => ?_
  · cases q : base.get? e with
    | none => rfl
    | some o => have := hk2 _ _ q; rw [hm.new] at this; cases this
  · have kk : KeepAll s₂.heap h₃ := fun b o q => y2 b o (fun r => by rw [List.mem_singleton.mp r, hm.new] at q; cases q) (hm.keeps _ _ q)
    exact ⟨rfl, _, kk _ _ (hk2 _ _ hC), y1, rfl, ⟨t, rfl⟩, hE h₃ tk₃ e t d hm.new y1 kk⟩
theorem leave_loop {M : Model} {h h₁ g h₂ : Heap} {fs : List Env} {env : Env} {L e t d : Addr} {m : Str → Option Value} {Qu : Unit → Shared → Prop} {tk : Nat}
    (en : h₁.get? e = none) (eh : h₂.get? e = some (loopObj t (some d))) (k2 : KeepAll h₁ h₂) (F : Fr g L h₁ m) (hA : A.frames = some fs) (hfs : FramesOk h fs) (k : KeepAll h h₁) (hL : h.get? L = none) (hk : env.scope.kind = .function) (hf : env.frame = some L)
    (hQ : ∀ h', RaisedH h fs e (.ref 84) h' → Qu () { s with heap := h', toks := tk }) : wpAny M (A.deeper env) (leaving env (.ref e)) Qu E { s with heap := h₂, toks := tk } := by
  refine leave_first (s := { s with heap := h₂, toks := tk }) (m := m) hA hfs (fun b o q => k2 b o (k b o q)) hL (F.ns.keeps k2) hk hf eh ?_ rfl rfl rfl rfl hQ
  cases q : h.get? e with
  | none => rfl
  | some o => have := k e o q; rw [en] at this; cases this
end
end
example : ∀ w A s Q E, TZ w A s Q E → TZ w A s Q E := by intro w A s Q E h; w_top off; first | (walk1; fail) | exact h
section
def gC3.siteTag : Unit := ()
open gC3
section
variable {p9 : Program} {lo9 : List Str} {w : World} {A : Around} {s : Shared} {base : Heap} {mg mb : Str → Option Value} {mean : ExcName → Option Value} {Q E : Value → Shared → Prop}
example : True := by
  k_with "gC3 call ref" => (k_here; (try dsimp only [List.nil_append, List.cons_append, List.append_nil]); (with_reducible show wpAny _ _ (call (Value.ref 67) _) _ _ _); k_dflt (refine' spec_Ref ?sX ?sT ?sb ?sr ?su ?sh ?_; (case sb => exact keep_base (by k_asm) (by k_asm)); (case sX => k_asm); (case sT => k_asm); (case sr => k_room); (case su => k_units); (case sh => k_asm)); (all_goals first | ((with_reducible intro h' tk' kk'); (have F' := fr_keepAll (by k_asm) kk'); (have N' := news_keepAll (by k_asm) kk'); (try k_sweep))))
  k_with "gC3 call ref" => (k_here; (try dsimp only [List.nil_append, List.cons_append, List.append_nil]); (with_reducible show wpAny _ _ (call (Value.ref 53) _) _ _ _); k_dflt (refine' spec_Obj ?sX ?sT ?sb ?sr ?su ?sh ?_; (case sb => exact keep_base (by k_asm) (by k_asm)); (case sX => k_asm); (case sT => k_asm); (case sr => k_room); (case su => k_units); (case sh => k_asm)); (all_goals first | ((with_reducible intro h' tk' kk'); (have F' := fr_keepAll (by k_asm) kk'); (have N' := news_keepAll (by k_asm) kk'); (try k_sweep))))
  k_with "gC3 call ref" => (k_here; (try dsimp only [List.nil_append, List.cons_append, List.append_nil]); (with_reducible show wpAny _ _ (call (Value.ref 159) _) _ _ _); k_dflt (refine' spec_read ?sX ?sT ?sb ?sr ?su ?sh ?sR ?sV ?_ ?_; (case sb => exact keep_base (by k_asm) (by k_asm)); (case sX => k_asm); (case sT => k_asm); (case sr => k_room); (case su => k_units); (case sh => k_asm); (case sR => ktr_unf); (case sV => k_asm)); (all_goals first | ((with_reducible intro v' t' h' tk' hgv' kk'); (have F' := fr_keepAll (by k_asm) kk'); (have N' := news_keepAll (by k_asm) kk'); (try k_sweep)) | ((with_reducible intro h' tk' hgn' kk'); (have F' := fr_keepAll (by k_asm) kk'); (have N' := news_keepAll (by k_asm) kk'); (try k_sweep))))
  trivial
set_option maxHeartbeats 4000000 in
theorem spec_parse {b : Bts} {t : Tok} {fs : List Env} (hbl : b.length ≤ 1048576) (X : (hd.heap_1 w.params).In base) (T : Top p9 lo9 mean mg mb base) (hb : KeepAll base s.heap) (hroom : A.depth + 4 < recursionLimit) (hun : A.units + 40 < cLine) (hhd : A.handled = none) (hA : A.frames = some fs) (hfs : FramesOk s.heap fs)
    (h : rp.isPrefixOf b = true → ∀ h' tk' t', KeepAll s.heap h' → Q (.bytes (rstripB (b.drop 5) [13, 10]).toArray t') { s with heap := h', toks := tk' })
    (hE : rp.isPrefixOf b = false → ∀ h' tk' e, RaisedH s.heap fs e (.type "ValueError") h' → E (.ref e) { s with heap := h', toks := tk' }) :
    wpAny (model PG w) A (call (.ref 94) [Value.bytes b.toArray t]) Q E s := by
  refine wpAny_call ?_
  refine' enter_def (binds := [(Str.ofString "contents", Value.bytes b.toArray t)]) (X.keeps hb) (T.keeps hb) ?k6 ?k7 ?k8 ?k9 ?kB ?_ ?c2 ?c3 ?c4 ?c5
  case k6 => k_is
  case k7 => k_is
  case k8 => omega
  case k9 => exact BindsTo.of_eq rfl
  case kB => exact locs rfl
  case c2 => exact rfl
  case c3 => exact rfl
  case c4 => exact rfl
  case c5 => decide
  intro L' h' hL F'
  have N' : News s.heap L' h' [] := News.nil
  have X' := X.keeps hb
  have T' := T.keeps hb
  clear X T
  (try dsimp only)
  (try k_fold)
  k_steps
  · exact h (by k_asm) _ _ _ (Fr.keep (by k_asm))
  · exact fun _ _ hm => leave_made hm (by k_asm) hA hfs (Fr.keep (by k_asm)) (hL ▸ fresh_size _) rfl rfl fun _ R => hE (by k_asm) _ _ _ R
set_option maxHeartbeats 4000000 in
theorem spec_contains {k : Bts} {t : Tok} {fs : List Env} {r dg : Addr} {D : DD} (X : (hd.heap_1 w.params).In base) (T : Top p9 lo9 mean mg mb base) (hb : KeepAll base s.heap) (hroom : A.depth + 6 < recursionLimit) (hun : A.units + 60 < cLine) (hhd : A.handled = none) (hR : RefsAt w base fs s.heap r dg D) (hV : ValsOk D)
    (h : ∀ h' tk', KeepAll s.heap h' → Q (.bool (getB D k).isSome) { s with heap := h', toks := tk' }) :
    wpAny (model PG w) A (call (.ref 173) [.ref r, .bytes k.toArray t]) Q E s := by
  refine wpAny_call ?_
  refine' enter_def (binds := [(Str.ofString "self", Value.ref r), (Str.ofString "refname", Value.bytes k.toArray t)]) (X.keeps hb) (T.keeps hb) ?k6 ?k7 ?k8 ?k9 ?kB ?_ ?c2 ?c3 ?c4 ?c5
  case k6 => k_is
  case k7 => k_is
  case k8 => omega
  case k9 => exact BindsTo.of_eq rfl
  case kB => exact locs rfl
  case c2 => exact rfl
  case c3 => exact rfl
  case c4 => exact rfl
  case c5 => decide
  intro L' h' hL F'
  obtain ⟨dx, dp, t1, t2, o, F1, N1, X1, T1, hB, lo, n1, n2, n3, e1, e2, e3, hbg, sp⟩ := hR.open F' X T hb
  clear F'
  (try dsimp only)
  (try k_fold)
  k_steps
  all_goals (rename getB D k = _ => e9; rw [e9] at h; exact h _ _ (by ktr_rel))
noncomputable def ResIs : Option Bts → Value → Prop
  | none, v => v = .none
  | some b, v => ∃ t, v = .bytes b.toArray t
theorem hide3 {h : Heap} {dg r dx b : Addr} (n : (hideAll h [dg, r, dx]).get? b = none) (h1 : dg < b) (h2 : r < b) (h3 : dx < b) : h.get? b = none := by
  cases q : h.get? b with
  | none => rfl
  | some o =>
    rw [hideAll_get [dg, r, dx] q (by simp only [List.mem_cons, List.not_mem_nil, or_false, not_or]; exact ⟨Nat.ne_of_gt h1, Nat.ne_of_gt h2, Nat.ne_of_gt h3⟩)] at n; cases n
theorem BytesAre.snoc {vs : List Value} {ps : List Bts} (h : BytesAre vs ps) (p : Bts) (t : Tok) : BytesAre (vs ++ [.bytes p.toArray t]) (ps ++ [p]) := by
  induction h with
  | nil => exact .cons p t .nil
  | cons q u _ ih => exact .cons q u ih
theorem isE {D : DD} {k v : Bts} (h : ValsOk D) (e : getB D k = some v) : v.isEmpty = false := by
  cases q : v with
  | nil => exact absurd q (h k v e).1
  | cons _ _ => rfl
theorem six' {d n : Nat} (h : d + (n + 1) = 6) (q : ¬ (5 : Int) < (d : Int) + 1) : ∃ m, n = m + 1 := by
  cases n with
  | zero => exact absurd (by rw [Nat.succ.inj h]; decide) q
  | succ f => exact ⟨f, rfl⟩
inductive JFo (w : World) (s : Shared) (L' r dg dx dp l : Addr) (o : Obj) (t1 t2 t : Tok) (k : Bts) (D : DD) (n : Nat) (s1 : Shared) : Prop
  | mk (c : Bts) (tc td : Tok) (vs : List Value) (ps : List Bts) (cnt d : Nat) (rn : Option Value) (h2 : Heap) (tk2 : Nat) (j1 : s1 = { s with heap := h2, toks := tk2 }) (j2 : Fr (hideAll s.heap [dg, r, dx]) L' h2 (fun y => if y = Str.ofString "contents" then some (Value.bytes c.toArray tc) else if y = Str.ofString "refname" then rn else if y = Str.ofString "depth" then some (Value.int (d : Int) td) else if y = Str.ofString "refnames" then some (Value.ref l) else List.lookup y [(Str.ofString "self", Value.ref r), (Str.ofString "name", Value.bytes (List.toArray k) t)].reverse)) (j3 : News (hideAll s.heap [dg, r, dx]) L' h2 [(l, W.listOf vs.toArray cnt), (dg, o), (r, instObj 281 dx), (dx, refsDict w t1 t2 dg dp)]) (j4 : BytesAre vs ps) (j5 : c.isEmpty = false) (j6 : c.length ≤ 69) (j7 : followD D 6 k = followC D n ps c) (j8 : d + n = 6) (j9 : 0 < n) (j10 : vs.length = d)
set_option maxHeartbeats 8000000 in
theorem spec_follow {k : Bts} {t : Tok} {fs : List Env} {r dg : Addr} {D : DD} (X : (hd.heap_1 w.params).In base) (T : Top p9 lo9 mean mg mb base) (hb : KeepAll base s.heap) (hroom : A.depth + 6 < recursionLimit) (hun : A.units + 60 < cLine) (hhd : A.handled = none) (hR : RefsAt w base fs s.heap r dg D) (hV : ValsOk D) (hkl : k.length ≤ 64) (hA : A.frames = some fs) (hfs : FramesOk s.heap fs)
    (h : ∀ T l v vs ps res cnt h' tk', followD D 6 k = some (ps, res) → ResIs res v → BytesAre vs ps → KeepAll s.heap h' → h'.get? T = some { cls := .type "tuple", data := .seq #[.ref l, v] } → h'.get? l = some (W.listOf vs.toArray cnt) →
      s.heap.get? T = none → s.heap.get? l = none → Q (.ref T) { s with heap := h', toks := tk' })
    (hE : followD D 6 k = none → ∀ h' tk' e, RaisedH s.heap fs e (.ref 84) h' → E (.ref e) { s with heap := h', toks := tk' }) :
    wpAny (model PG w) A (call (.ref 166) [.ref r, .bytes k.toArray t]) Q E s := by
  refine wpAny_call ?_
  refine' enter_def (binds := [(Str.ofString "self", Value.ref r), (Str.ofString "name", Value.bytes k.toArray t)]) (X.keeps hb) (T.keeps hb) ?k6 ?k7 ?k8 ?k9 ?kB ?_ ?c2 ?c3 ?c4 ?c5
  case k6 => k_is
  case k7 => k_is
  case k8 => omega
  case k9 => exact BindsTo.of_eq rfl
  case kB => exact locs rfl
  case c2 => exact rfl
  case c3 => exact rfl
  case c4 => exact rfl
  case c5 => decide
  intro L' h' hL F'
  obtain ⟨dx, dp, t1, t2, o, F1, N1, X1, T1, hB, lo, n1, n2, n3, e1, e2, e3, hbg, sp⟩ := hR.open F' X T hb
  clear F'
  (try dsimp only)
  (try k_fold)
  k_steps
  rename_i l hx l1 hh F9 N9
  have hlh : s.heap.get? l = none := hide3 (News.fresh N9 (by k_mem)) l1.1 l1.2.1 l1.2.2
  refine whl_ind (J := JFo w s L' r dg dx dp l o t1 t2 t k D) ?_ (n := 6) ⟨rp ++ k, _, _, [], [], 0, 0, none, _, _, rfl, Fr.to F9 (by intro y9; by_cases c0 : y9 = Str.ofString "contents"; (subst c0; with_unfolding_all rfl); by_cases c1 : y9 = Str.ofString "refname"; (subst c1; with_unfolding_all rfl); by_cases c2 : y9 = Str.ofString "depth"; (subst c2; with_unfolding_all rfl); by_cases c3 : y9 = Str.ofString "refnames"; (subst c3; with_unfolding_all rfl); simp only [if_neg c0, if_neg c1, if_neg c2, if_neg c3]), N9, .nil, rfl, by simp; omega, followC_start.symm, rfl, by omega, rfl⟩
  clear F9 N9
  rintro n s1 ⟨c, tc, td, vs, ps, cnt, d, rn, h2, tk2, rfl, F9, N9, hvs, hce, hcl, hfo, hdn, hn0, hvl⟩ ih
  obtain ⟨n, rfl⟩ := Nat.exists_eq_succ_of_ne_zero (Nat.ne_of_gt hn0)
  replace hdn : d + (n + 1) = 6 := hdn
  k_steps
  · have hn : n = 0 := by omega
    subst hn
    refine ⟨rfl, keep_base (by k_asm) (by k_asm), fun _ _ _ _ _ en eh kk => leave_loop en eh kk (by k_asm) hA hfs (by ktr_rel) (hL ▸ fresh_size _) rfl rfl fun _ R => hE (hfo.trans (followC_out (by k_asm) (by k_asm))) _ _ _ R⟩
  · obtain ⟨n, rfl⟩ := six' hdn (by assumption)
    exact ih (n + 1) _ _ (Nat.lt_succ_self _) ⟨_, _, _, vs ++ [_], ps ++ [_], cnt + 1, d + 1, _, _, _, rfl, Fr.to (by k_asm) (by intro y9; by_cases c0 : y9 = Str.ofString "contents"; (subst c0; with_unfolding_all rfl); by_cases c1 : y9 = Str.ofString "refname"; (subst c1; with_unfolding_all rfl); by_cases c2 : y9 = Str.ofString "depth"; (subst c2; with_unfolding_all rfl); by_cases c3 : y9 = Str.ofString "refnames"; (subst c3; with_unfolding_all rfl); simp only [if_neg c0, if_neg c1, if_neg c2, if_neg c3]), by rw [← List.push_toArray]; assumption, hvs.snoc _ _, isE hV (by k_asm), Nat.le_trans (hV _ _ (by k_asm)).2 (by decide), hfo.trans (followC_step (by k_asm) (by k_asm)), by rw [← hdn, Nat.add_assoc, Nat.add_comm 1], Nat.succ_pos _, by simp; omega⟩
  · rename l < _ ∧ _ => lt9
    exact h _ _ _ _ _ none _ _ _ (hfo.trans (followC_none (by k_asm) (by k_asm))) rfl (hvs.snoc _ _) (by ktr_rel) (News.get (by k_asm) (by k_mem)) (by rw [← List.push_toArray]; exact News.get (by k_asm) (by k_mem)) (hide3 (News.fresh (by k_asm) (by k_mem)) lt9.2.1 lt9.2.2.1 lt9.2.2.2) hlh
  · rename l < _ ∧ _ => lt9
    exact h _ _ _ _ _ (some c) _ _ _ (hfo.trans (followC_end (by k_asm))) ⟨_, rfl⟩ hvs (by ktr_rel) (News.get (by k_asm) (by k_mem)) (News.get (by k_asm) (by k_mem)) (hide3 (News.fresh (by k_asm) (by k_mem)) lt9.2.1 lt9.2.2.1 lt9.2.2.2) hlh
end
end
example : ∀ w A s Q E, TZ w A s Q E → TZ w A s Q E := by intro w A s Q E h; w_top off; first | (walk1; fail) | exact h
section
section
variable {w : World} {A : Around} {s : Shared} {K : Frag} {mg mb : Str → Option Value} {p : Program} {loose : List Str} {mean : ExcName → Option Value}
  {R : Result → Shared → Prop} {name qual : Str} {params : Arguments} {body : List Stmt} {scope : Scope} {dV kV doc pm cdv ct oc : Value} {an od : Option Addr} {osl : Array (Option Value)} {f : Addr} {args : Args} {binds : List (Str × Value)}
theorem enter_defC (X : K.In s.heap) (T : Top p loose mean mg mb s.heap)
    (ho : K.lookup f = some ⟨oc, od, .func (fnOf name qual params body scope dV kV doc pm an cdv ct), osl⟩) (hcd : codeIn K cdv qual = true) (hroom : A.depth < recursionLimit)
    (hbind : BindsTo s (fnOf name qual params body scope dV kV doc pm an cdv ct) args binds)
    (hkind : ∀ n, ∀ x ∈ binds, scope.names.lookup x.1 = some .local ∨ (scope.names.lookup x.1 = some .cell ∧ ((cellsFrom n scope.names []).lookup x.1).isSome = true))
    (hnd : ((cellsFrom 0 scope.names []).map (·.1)).Nodup)
    (h : ∀ L' h₁ tk cells, L' = s.heap.objs.size → Fr s.heap L' h₁ (bindL (envOfC qual scope L' f cdv).kindOf binds fun _ => none) → News s.heap L' h₁ cells →
      CellsAre (bindC (envOfC qual scope L' f cdv).kindOf binds fun _ => none) (cellsFrom (L' + 1) scope.names []) cells →
      wpAny (model PG w) (A.deeper (envOfC qual scope L' f cdv)) (execs body (envOfC qual scope L' f cdv))
        (fun fl s' => R (.ok (.ret (match fl with | .ret v => v | _ => .none))) s')
        (fun e s' => wpAny (model PG w) (A.deeper (envOfC qual scope L' f cdv)) (leaving (envOfC qual scope L' f cdv) e) (fun _ s'' => R (.error e) s'') (fun e' s'' => R (.error e') s'') s')
        { s with heap := h₁, toks := tk })
    (hco : scope.isCoroutine = false) (hgen : scope.isGenerator = false) (hk : scope.kind = .function) : codeAny (model PG w) A (.call (.ref f) args) R s := by
  refine codeAny_call_function hroom (X _ _ ho) rfl hco hgen rfl (codeRec_of X hcd) (hbind _ _ _ _ ?_)
  refine wpAny_newFunctionEnv_cells hk (hkind _) fun env' he s' x => ?_
  subst he
  refine ⟨T.nolimit.keeps x.toInCall.keep, codeAny_func ?_⟩
  obtain ⟨h₁, tk, rfl, _⟩ := x.done
  obtain ⟨cells, NC, Y⟩ := Cl.news (h₀ := s.heap) (Nat.le_refl _) fun n c hm => ⟨x.cell n c (lookup_of_mem_nodup (cellsFrom_names scope.names 0 (s.heap.objs.size + 1) [] [] rfl ▸ hnd) hm), x.above n c hm⟩
  exact h s.heap.objs.size h₁ tk cells rfl ⟨x.toInCall.ns, x.toInCall.keep, Nat.le_refl _⟩ NC Y
end
section
variable {A : Around} {M : Model} {E : Value → Shared → Prop} {s : Shared}
theorem leave_new {h h₁ g : Heap} {fs : List Env} {env : Env} {L e : Addr} {cls : String} {m : Str → Option Value} {Q : Unit → Shared → Prop}
    (hx : Heap.NewExc h₁ s.heap e cls) (F : Fr g L h₁ m) (hA : A.frames = some fs) (hfs : FramesOk h fs) (k : KeepAll h h₁) (hL : h.get? L = none) (hk : env.scope.kind = .function) (hf : env.frame = some L)
    (hQ : ∀ h', RaisedH h fs e (.type cls) h' → Q () { s with heap := h' }) : wpAny M (A.deeper env) (leaving env (.ref e)) Q E s := by
  obtain ⟨ob, t, he, hc, hd⟩ := hx.there
  refine leave_first hA hfs (fun b o q => hx.keeps b o (k b o q)) hL (F.ns.keeps hx.keeps) hk hf he ?_ hc hd rfl rfl hQ
  cases q : h.get? e with
  | none => rfl
  | some o => have := k e o q; rw [hx.new] at this; cases this
end
section
open LCg
variable {prog : Program} {w : World} {A : Around} {E : Value → Shared → Prop} {s : Shared} {h₀ : Heap} {L : Addr} {m : Str → Option Value} {env : Env}
theorem range_stC {I : Addr} {a c : Int} {n : Nat} : ∀ i (h h' : Heap) (o : Obj) (nw : List (Addr × Obj)), IsRangeIter h I (a + (i : Nat) * c) ((n : Int) - (i : Nat)) c → h.get? I = some o → h'.get? I = some o → (∀ b o, h₀.get? b = some o → h'.get? b = some o) → News h₀ L h' nw → True → IsRangeIter h' I (a + (i : Nat) * c) ((n : Int) - (i : Nat)) c :=
  fun i h h' o nw st e e' _ _ _ => by
    have st' : h.get? I = some _ := st
    show h'.get? I = some _
    rw [e', ← e]; exact st'
noncomputable def RSrc (prog : Program) (w : World) (A : Around) (h₀ : Heap) (L : Addr) (m : Str → Option Value) (env : Env) (elt : PySem.Expr) (x : Str) (scope : Scope) (cl : List (Str × Addr)) (c : Int) (Q : Value → Shared → Prop) (xv : Value) (s₁ : Shared) : Prop :=
  ∃ r a b t u v n news, xv = .ref r ∧ A.handled = none ∧ Fr h₀ L s₁.heap m ∧ News h₀ L s₁.heap news ∧ IsRange s₁.heap r a b c t u v ∧ Builtin.Range.small a b c = true ∧ Builtin.Range.rangeSize a b c = ((n : Nat) : Int) ∧ n ≤ sizeLine ∧
      ∀ s₂ : Shared, (∃ h, s₂ = { s₁ with heap := h }) → CompRest prog w A h₀ L m env elt x scope cl s₂ (fun _ => True) (fun i v => i < n ∧ ∃ t, v = .int (a + (i : Int) * c) t) (FinE h₀ L m s₂ Q) n 0 [] news
theorem ListComp_RC {elt iter : PySem.Expr} {x : Str} {px : Pos} {scope : Scope} {cl : List (Str × Addr)} {pos : Pos} {Q : Value → Shared → Prop} {c : Int} (F₀ : Fr h₀ L s.heap m)
    (hclos : closureFor scope env = pure cl) (hcell : ∀ y ∈ scope.names, y.2 ≠ .cell) (hkind : scope.kind = .function)
    (hnames : ∀ y ∈ scope.names, y.2 = .local → scope.names.lookup y.1 = some .local) (hx : scope.names.lookup x = some .local)
    (h : wpAny (model prog w) A (eval iter env) (RSrc prog w A h₀ L m env elt x scope cl c Q) E s)
    (hs : ∀ x, foldedSetIterable iter env x = pure x := by intro _; rfl) :
    wpAny (model prog w) A (eval (.ListComp elt [⟨.Name x px, iter, [], 0⟩] scope pos) env) Q E s := by
  rw [eval_ListComp]
  refine wpAny_comprehension_free (use := none) rfl hs hclos hkind hnames (wpAny_mono h (fun xv s₁ h₁ => ?_) fun _ _ e => e)
  obtain ⟨r, a, b, t, u, v, n, news, rfl, hh, F, N, hr, hsm, hn, hsz, R⟩ := h₁
  refine wpAny_pyIter_range hr hsm ?_
  refine block_U (Walks.range hh s₁.heap.objs.size a c n).bound hsz (fun i h st => ⟨_, st⟩) range_stC hcell hkind hx (by show IsRangeIter _ _ _ _ _; rw [hn]; simpa using Heap.get?_push_size _ rfl) (fun b hb => ?_)
    (F.keeps fun _ _ e => Heap.get?_push_of_some _ e) (N.grown fun _ _ e => Heap.get?_push_of_some _ e) (Nat.ne_of_lt F.ns.lt) (next_is_new F) (fun p hp => Nat.ne_of_lt (Heap.lt_size (N p hp).1)) trivial (R _ ⟨_, rfl⟩) ?_
  · rw [List.mem_singleton.mp hb]
    show s₁.heap.objs.size < (s₁.heap.push _).objs.size
    rw [Heap.size_push]; exact Nat.lt_succ_self _
  · intro D C h tk m' ys news' F' N' o1 hn hC₀ hD₀ hCL hDL hCD offC fin
    refine ⟨m', hn, fun h'' hs'' => fin D h'' tk (F'.change hs'' hCL hC₀) (fun p hp => ?_) o1⟩
    refine ⟨hs''.extBut _ _ ?_ (N' p hp).1, (N' p hp).2⟩
    rcases List.mem_cons.mp hp with rfl | hp
    · exact Ne.symm hCD
    · exact offC p hp
theorem comp_rest {elt : PySem.Expr} {x : Str} {scope : Scope} {cl : List (Str × Addr)} {S : List (Addr × Obj) → Prop} {P : Nat → Value → Prop} {Fin : List Value → List (Addr × Obj) → Prop} {n : Nat} {news : List (Addr × Obj)} (Y : Nat → Value → Prop)
    (turn : ∀ i v I oI C oC D m₂ ys h tk (E' : Value → Shared → Prop), i < n → P i v → NsObj oC m₂ → m₂ x = some v → Fr h₀ L h m → News h₀ L h ((I, oI) :: (C, oC) :: (D, lst ys) :: news) → Off3 I C D news → ((@Ne Nat I C) ∧ (@Ne Nat I D) ∧ (@Ne Nat C D)) →
      wpAny (model prog w) A (eval elt (compEnvC scope cl C env)) (CompEnd h₀ L m { s with heap := h, toks := tk } I oI C oC D (lst ys) S (fun y news' => news' = news ∧ Y i y)) E' { s with heap := h, toks := tk })
    (fin : ∀ ys, ys.length = n → (∀ i y, ys[i]? = some y → Y i y) → Fin ys news) : CompRest prog w A h₀ L m env elt x scope cl s S P Fin n 0 [] news := by
  have key : ∀ (j i : Nat) (ys : List Value), i + j = n → ys.length = i → (∀ i y, ys[i]? = some y → Y i y) → CompRest prog w A h₀ L m env elt x scope cl s S P Fin j i ys news := by
    intro j
    induction j with
    | zero => intro i ys hi hl hy; exact CompRest.zero (fin ys (by omega) hy)
    | succ j ih =>
      intro i ys hi hl hy
      refine CompRest.succ ?_
      intro v I oI C oC D m₂ h tk E' hv hC hx F N off ne
      refine wpAny_mono (turn i v I oI C oC D m₂ ys h tk E' (by omega) hv hC hx F N off ne) (fun y s₂ hq => ?_) fun _ _ e => e
      obtain ⟨h', tk', nw, e, F', N', off', hS, hn, hY⟩ := hq
      rw [hn] at N' off' hS
      refine ⟨h', tk', news, e, F', N', off', hS, ?_⟩
      refine ih (i + 1) _ (by omega) (by simp [hl]) fun k z hz => ?_
      by_cases hk : k < ys.length
      · exact hy k z (by rwa [List.getElem?_append_left hk] at hz)
      · rw [List.getElem?_append_right (Nat.not_lt.mp hk)] at hz
        obtain ⟨e1, e2⟩ := List.getElem?_eq_some_iff.mp hz
        simp only [List.length_singleton] at e1
        have : k = i := Nat.le_antisymm (Nat.le_of_sub_eq_zero (by rw [← hl]; exact Nat.lt_one_iff.mp e1)) (by rw [← hl]; exact Nat.not_lt.mp hk)
        subst this
        simp at e2
        rw [← e2]; exact hY
  exact key n 0 [] (by omega) rfl (by simp)
end
end
example : ∀ w A s Q E, TZ w A s Q E → TZ w A s Q E := by intro w A s Q E h; w_top off; first | (walk1; fail) | exact h
section
theorem size_two {n : Nat} : Builtin.Range.rangeSize 0 (n : Int) 2 = ((n + 1) / 2 : Nat) := by
  simp only [Builtin.Range.rangeSize]; simp; omega
theorem small_two {n : Nat} (h : n ≤ 1000) : Builtin.Range.small 0 (n : Int) 2 = true := by
  have e := size_two (n := n)
  unfold Builtin.Range.small
  rw [e]
  unfold Builtin.Range.rangeFitsLong
  simp
  omega
theorem ints_of : ∀ {ys : List Value}, (∀ (i : Nat) y, ys[i]? = some y → ∃ i t, y = Value.int i t ∧ 0 ≤ i ∧ i < 256) → ∃ ns, IntsAre ys ns ∧ ∀ n ∈ ns, 0 ≤ n ∧ n < 256
  | [], _ => ⟨[], .nil, fun n h => by cases h⟩
  | y :: ys, h => by
    obtain ⟨i, t, rfl, h1, h2⟩ := h 0 y rfl
    obtain ⟨ns, a, b⟩ := ints_of (ys := ys) fun j z e => h (j + 1) z e
    exact ⟨i :: ns, .cons i t a, fun n hn => by rcases List.mem_cons.mp hn with rfl | hn; exact ⟨h1, h2⟩; exact b n hn⟩
noncomputable abbrev HexN (n : Int) : Prop := (48 ≤ n ∧ n ≤ 57) ∨ (65 ≤ n ∧ n ≤ 70) ∨ (97 ≤ n ∧ n ≤ 102)
def gE1.siteTag : Unit := ()
open gE1
section
variable {p9 : Program} {lo9 : List Str} {w : World} {A : Around} {s : Shared} {base : Heap} {mg mb : Str → Option Value} {mean : ExcName → Option Value} {Q E : Value → Shared → Prop}
set_option maxHeartbeats 4000000 in
theorem spec_digit {n : Int} {t : Tok} (X : (hd.heap_1 w.params).In base) (T : Top p9 lo9 mean mg mb base) (hb : KeepAll base s.heap) (hroom : A.depth + 2 < recursionLimit) (hun : A.units + 20 < cLine) (hhd : A.handled = none) (hn : HexN n)
    (h : ∀ i t' h' tk', 0 ≤ i → i ≤ 15 → KeepAll s.heap h' → Q (.int i t') { s with heap := h', toks := tk' }) :
    wpAny (model PG w) A (call (.ref 41) [.int n t]) Q E s := by
  unfold HexN at hn
  refine wpAny_call ?_
  refine' enter_def (binds := [(Str.ofString "octet", Value.int n t)]) (X.keeps hb) (T.keeps hb) ?k6 ?k7 ?k8 ?k9 ?kB ?_ ?c2 ?c3 ?c4 ?c5
  case k6 => k_is
  case k7 => k_is
  case k8 => omega
  case k9 => exact BindsTo.of_eq rfl
  case kB => exact locs rfl
  case c2 => exact rfl
  case c3 => exact rfl
  case c4 => exact rfl
  case c5 => decide
  intro L' h' hL F'
  have N' : News s.heap L' h' [] := News.nil
  have X' := X.keeps hb
  have T' := T.keeps hb
  clear X T
  (try dsimp only)
  (try k_fold)
  k_steps
  all_goals first
    | exact h _ _ _ _ (by omega) (by omega) (Fr.keep (by k_asm))
    | (exfalso; omega)
theorem hex_at {b : Bts} (hx : ∀ i : Nat, i < b.length → HexN ((b.getD i 0).toNat : Int)) {i : Nat} (h : i < b.length) : HexN ((b.getD i 0).toNat : Int) := hx i h
theorem rc_stop {P : Prop} (h : Stop P) : P := h
example : True := by
  k_with "gE1 eval ListComp" => (refine rc_stop ?_)
  k_with "gE1 call ref" => (k_here; (try dsimp only [List.nil_append, List.cons_append, List.append_nil]); (with_reducible show wpAny _ _ (call (Value.ref 41) _) _ _ _); k_dflt (refine' spec_digit ?sX ?sT ?sb ?sr ?su ?sh ?sn ?_; (case sb => exact keep_base (by k_asm) (by k_asm)); (case sX => k_asm); (case sT => k_asm); (case sr => k_room); (case su => k_units); (case sh => k_asm); (case sn => (refine hex_at (by k_asm) ?_; (try split) <;> omega))); (all_goals first | ((with_reducible intro i' t' h' tk' i0' i1' kk'); (have F' := fr_keepAll (by k_asm) kk'); (have N' := news_keepAll (by k_asm) kk'); (try k_sweep))))
  trivial
set_option maxHeartbeats 400000 in
theorem spec_unhex {b : Bts} {t : Tok} (X : (hd.heap_1 w.params).In base) (T : Top p9 lo9 mean mg mb base) (hb : KeepAll base s.heap) (hroom : A.depth + 4 < recursionLimit) (hun : A.units + 40 < cLine) (hhd : A.handled = none) (hb0 : b.length ≤ 64) (hev2 : b.length % 2 = 0) (hx : ∀ i : Nat, i < b.length → HexN ((b.getD i 0).toNat : Int))
    (h : ∀ v h' tk', KeepAll s.heap h' → Q v { s with heap := h', toks := tk' }) :
    wpAny (model PG w) A (call (.ref 46) [.bytes b.toArray t]) Q E s := by
  refine wpAny_call ?_
  refine' enter_defC (binds := [(Str.ofString "text", Value.bytes b.toArray t)]) (X.keeps hb) (T.keeps hb) ?k6 ?k7 ?k8 ?k9 ?kB ?kC ?_ ?c2 ?c3 ?c4
  case k6 => k_is
  case k7 => k_is
  case k8 => omega
  case k9 => exact BindsTo.of_eq rfl
  case kB => exact fun n9 => by intro x9 hx9; (repeat (rcases List.mem_cons.mp hx9 with rfl | hx9; (first | exact .inl rfl | exact .inr ⟨rfl, rfl⟩))); cases hx9
  case kC => decide
  case c2 => exact rfl
  case c3 => exact rfl
  case c4 => exact rfl
  intro L' h' tk9 cells9 hL F' N' Y'
  k_cells Y'
  have X' := X.keeps hb
  have T' := T.keeps hb
  have hrefl : KeepAll s.heap s.heap := fun _ _ e => e
  clear X T hb
  (try dsimp only)
  (try k_fold)
  have hev : (b.length : Int).fmod 2 = 0 := by rw [Int.fmod_eq_emod_of_nonneg _ (by decide)]; omega
  (iterate 14 (first | walk1 | (dsimp only; walk1)))
  rw [hev, if_neg (by decide)]
  k_steps
  rename_i oc9 dc9 _ _
  replace dc9 : oc9.data = .cell (some (.bytes b.toArray t)) := dc9
  show wpAny _ _ _ _ _ _
  refine ListComp_RC (c := 2) F' (by with_unfolding_all rfl) (by decide) (by rfl) (by decide) (by rfl) ?_
  k_steps
  refine ⟨_, 0, b.length, _, _, _, (b.length + 1) / 2, _, rfl, by k_asm, by k_asm, by k_asm, by k_asm, ?s1, ?s2, ?s3, ?rest⟩
  case s1 => exact small_two (by omega)
  case s2 => exact size_two
  case s3 => rw [sizeLine_eq]; omega
  rintro s2 ⟨g2, rfl⟩
  refine comp_rest (fun _ y => ∃ i t, y = Value.int i t ∧ 0 ≤ i ∧ i < 256) ?_ ?_
  · rintro i v I oI C oC D m2 ys h2 tk2 E2 hi ⟨hi2, t2, rfl⟩ hC hx2 F2 N2 off ne
    (try simp only [LCg.Off3, and_true] at off)
    have hlt2 : i * 2 + 1 < b.length := by
      have hlt : i < (b.length + 1) / 2 := hi
      omega
    clear hi hev2
    k_steps
  · intro ys hl hY
    unfold LCg.FinE
    intro D3 h3 tk3 F3 N3 o3
    (try simp only [LCg.Off1, and_true] at o3)
    k_steps
    obtain ⟨ns, hi, hr⟩ := ints_of hY
    refine call_bytes_ints (s := ⟨h3, _, _, _, _⟩) ?l9 hi hr (by rw [sizeLine_eq]; omega) ?hh9 fun h5 t5 k5 kk5 => ?_
    case hh9 => k_asm
    case l9 => exact News.isList N3 (.head _)
    exact h _ _ _ fun b9 o9 q9 => kk5 _ _ (F3.keep _ _ q9)
end
end
example : ∀ w A s Q E, TZ w A s Q E → TZ w A s Q E := by intro w A s Q E h; w_top off; first | (walk1; fail) | exact h
section
noncomputable def badVr : Bts := List.replicate 39 49
namespace SF
theorem slot_bytes_repr : Slot "bytes" "__repr__" "bytes.__repr__" :=
  .of (owner := "bytes") (n := "__repr__") (by rw [typeLookup_type, builtinLookup_eq_fast]; kernel_rfl) (by decide +kernel) (by decide +kernel) (by decide +kernel)
    (by first | exact .inl (by decide +kernel) | exact .inr (by decide +kernel)) (by rw [isSubtype_type]; kernel_rfl)
theorem entry_bytes_repr : entryFor table "bytes.__repr__" = some Builtin.«bytes.__repr__» := entryFor_of_tree (by kernel_rfl)
theorem args_bytes_repr (a : Value) : argsOk "bytes.__repr__" ⟨[a], []⟩ := by unfold argsOk; kernel_rfl
end SF
theorem lit_len : (Builtin.Bytes.literal badVr.toArray).length ≤ 200 := by decide +kernel
theorem Gives_str {M : Model} {A : Around} {E : Value → Shared → Prop} {s : Shared} {Q : Value → Shared → Prop} {x : Str} (h : (Made.str x).post Q s) : wpAny M A (retStr x) (fun fin s' => ∃ v, fin = .done (.ret v) ∧ Q v s') E s := wpAny_bind (wpAny_mkStr (wpAny_pure ⟨_, rfl, h.2⟩) h.1)
theorem gives_repr : Gives (Builtin.«bytes.__repr__» ⟨[.bytes badVr.toArray t], []⟩) (.str (Builtin.Bytes.literal badVr.toArray)) := by
  refine .of_wp fun M A E s Q hq => ?_
  show wpAny M A (Builtin.Bytes.literalAsked badVr.toArray >>= fun r => retStr r) _ E s
  unfold Builtin.Bytes.literalAsked
  have e1 : (Builtin.Bytes.tooLong (4 * badVr.toArray.size + 3 + 0)) = false := by unfold Builtin.Bytes.tooLong; rw [sizeLine_eq]; decide
  rw [e1]
  simp only [Bool.false_and, Bool.false_eq_true, if_false]
  exact wpAny_bind (wpAny_pure (Gives_str hq))
theorem repr_bad {w : World} {A : Around} {E : Value → Shared → Prop} {s : Shared} {t : Tok} {Q : Value → Shared → Prop} (h : ∀ x t', x.length ≤ 200 → Q (.str x t') { s with toks := s.toks + 1 }) : wpAny (model PG w) A (pyReprObj (.bytes badVr.toArray t)) Q E s := by
  exact wpAny_pyReprObj_gives (typeIs_bytes s _ t) SF.slot_bytes_repr SF.entry_bytes_repr (SF.args_bytes_repr _) gives_repr (h _ _ lit_len) rfl (Nat.le_trans lit_len (by rw [sizeLine_eq]; decide))
def gE2.siteTag : Unit := ()
open gE2
section
variable {p9 : Program} {lo9 : List Str} {w : World} {A : Around} {s : Shared} {base : Heap} {mg mb : Str → Option Value} {mean : ExcName → Option Value} {Q E : Value → Shared → Prop}
example : True := by
  k_with "gE2 call ref" => (k_here; (try dsimp only [List.nil_append, List.cons_append, List.append_nil]); (with_reducible show wpAny _ _ (call (Value.ref 46) _) _ _ _); k_dflt (refine' spec_unhex ?sX ?sT ?sb ?sr ?su ?sh ?s0 ?s1 ?s2 ?_; (case sb => exact keep_base (by k_asm) (by k_asm)); (case sX => k_asm); (case sT => k_asm); (case sr => k_room); (case su => k_units); (case sh => k_asm); (case s0 => omega); (case s1 => omega); (case s2 => k_asm)); (all_goals first | ((with_reducible intro v' h' tk' kk'); (have F' := fr_keepAll (by k_asm) kk'); (have N' := news_keepAll (by k_asm) kk'); (try k_sweep))))
  trivial
set_option maxHeartbeats 400000 in
theorem spec_valid {b : Bts} {t : Tok} (X : (hd.heap_1 w.params).In base) (T : Top p9 lo9 mean mg mb base) (hb : KeepAll base s.heap) (hroom : A.depth + 6 < recursionLimit) (hun : A.units + 60 < cLine) (hhd : A.handled = none) (hb0 : b.length ≤ 64) (hx : ∀ i : Nat, i < b.length → HexN ((b.getD i 0).toNat : Int)) (hlen : b.length = 40 ∨ b.length = 64)
    (h : ∀ h' tk', KeepAll s.heap h' → Q (.bool true) { s with heap := h', toks := tk' }) :
    wpAny (model PG w) A (call (.ref 60) [.bytes b.toArray t]) Q E s := by
  refine wpAny_call ?_
  refine' enter_def (binds := [(Str.ofString "hex", Value.bytes b.toArray t)]) (X.keeps hb) (T.keeps hb) ?k6 ?k7 ?k8 ?k9 ?kB ?_ ?c2 ?c3 ?c4 ?c5
  case k6 => k_is
  case k7 => k_is
  case k8 => omega
  case k9 => exact BindsTo.of_eq rfl
  case kB => exact locs rfl
  case c2 => exact rfl
  case c3 => exact rfl
  case c4 => exact rfl
  case c5 => decide
  intro L' h' hL F'
  have N' : News s.heap L' h' [] := News.nil
  have X' := X.keeps hb
  have T' := T.keeps hb
  have hrefl : KeepAll s.heap s.heap := fun _ _ e => e
  clear X T hb
  (try dsimp only)
  (try k_fold)
  k_steps
  · exact h _ _ (Fr.keep (by k_asm))
  · exfalso; rename (List.any _ _) = false => a9; simp at a9; omega
set_option maxHeartbeats 400000 in
theorem spec_invalid {b : Bts} {t : Tok} (X : (hd.heap_1 w.params).In base) (T : Top p9 lo9 mean mg mb base) (hb : KeepAll base s.heap) (hroom : A.depth + 6 < recursionLimit) (hun : A.units + 60 < cLine) (hhd : A.handled = none) (hb0 : b.length < 40)
    (h : ∀ h' tk', KeepAll s.heap h' → Q (.bool false) { s with heap := h', toks := tk' }) :
    wpAny (model PG w) A (call (.ref 60) [.bytes b.toArray t]) Q E s := by
  refine wpAny_call ?_
  refine' enter_def (binds := [(Str.ofString "hex", Value.bytes b.toArray t)]) (X.keeps hb) (T.keeps hb) ?k6 ?k7 ?k8 ?k9 ?kB ?_ ?c2 ?c3 ?c4 ?c5
  case k6 => k_is
  case k7 => k_is
  case k8 => omega
  case k9 => exact BindsTo.of_eq rfl
  case kB => exact locs rfl
  case c2 => exact rfl
  case c3 => exact rfl
  case c4 => exact rfl
  case c5 => decide
  intro L' h' hL F'
  have N' : News s.heap L' h' [] := News.nil
  have X' := X.keeps hb
  have T' := T.keeps hb
  have hrefl : KeepAll s.heap s.heap := fun _ _ e => e
  clear X T hb
  (try dsimp only)
  (try k_fold)
  k_steps
  · exfalso; rename (List.any _ _) = true => a9; simp at a9; omega
  · exact h _ _ (Fr.keep (by k_asm))
section
example : True := by
  k_with "gE2 call ref" => (k_here; (try dsimp only [List.nil_append, List.cons_append, List.append_nil]); (with_reducible show wpAny _ _ (call (Value.ref 60) _) _ _ _); k_dflt (refine' spec_valid ?sX ?sT ?sb ?sr ?su ?sh ?s0 ?s1 ?s2 ?_; (case sb => exact keep_base (by k_asm) (by k_asm)); (case sX => k_asm); (case sT => k_asm); (case sr => k_room); (case su => k_units); (case sh => k_asm); (case s0 => k_asm); (case s1 => k_asm); (case s2 => k_asm)); (all_goals first | ((with_reducible intro h' tk' kk'); (have F' := fr_keepAll (by k_asm) kk'); (have N' := news_keepAll (by k_asm) kk'); (try k_sweep))))
  trivial
set_option maxHeartbeats 400000 in
theorem spec_chkv1 {r : Addr} {v : Bts} {t : Tok} (X : (hd.heap_1 w.params).In base) (T : Top p9 lo9 mean mg mb base) (hb : KeepAll base s.heap) (hroom : A.depth + 8 < recursionLimit) (hun : A.units + 80 < cLine) (hhd : A.handled = none) (hb0 : v.length ≤ 64) (hx : ∀ i : Nat, i < v.length → HexN ((v.getD i 0).toNat : Int)) (hlen : v.length = 40 ∨ v.length = 64)
    (h : ∀ h' tk', KeepAll s.heap h' → Q .none { s with heap := h', toks := tk' }) :
    wpAny (model PG w) A (call (.ref 152) [.ref r, .bytes v.toArray t]) Q E s := by
  refine wpAny_call ?_
  refine' enter_def (binds := [(Str.ofString "self", Value.ref r), (Str.ofString "ref", Value.bytes v.toArray t)]) (X.keeps hb) (T.keeps hb) ?k6 ?k7 ?k8 ?k9 ?kB ?_ ?c2 ?c3 ?c4 ?c5
  case k6 => k_is
  case k7 => k_is
  case k8 => omega
  case k9 => exact BindsTo.of_eq rfl
  case kB => exact locs rfl
  case c2 => exact rfl
  case c3 => exact rfl
  case c4 => exact rfl
  case c5 => decide
  intro L' h' hL F'
  have N' : News s.heap L' h' [] := News.nil
  have X' := X.keeps hb
  have T' := T.keeps hb
  have hrefl : KeepAll s.heap s.heap := fun _ _ e => e
  clear X T hb
  (try dsimp only)
  (try k_fold)
  k_steps
  · exact h _ _ (Fr.keep (by k_asm))
end
section
example : True := by
  k_with "gE2 call ref" => (k_here; (try dsimp only [List.nil_append, List.cons_append, List.append_nil]); (with_reducible show wpAny _ _ (call (Value.ref 60) _) _ _ _); k_dflt (refine' spec_invalid ?sX ?sT ?sb ?sr ?su ?sh ?s0 ?_; (case sb => exact keep_base (by k_asm) (by k_asm)); (case sX => k_asm); (case sT => k_asm); (case sr => k_room); (case su => k_units); (case sh => k_asm); (case s0 => k_asm)); (all_goals first | ((with_reducible intro h' tk' kk'); (have F' := fr_keepAll (by k_asm) kk'); (have N' := news_keepAll (by k_asm) kk'); (try k_sweep))))
  trivial
set_option maxHeartbeats 400000 in
theorem spec_chkv2 {r : Addr} {v : Bts} {t : Tok} (X : (hd.heap_1 w.params).In base) (T : Top p9 lo9 mean mg mb base) (hb : KeepAll base s.heap) (hroom : A.depth + 8 < recursionLimit) (hun : A.units + 80 < cLine) (hhd : A.handled = none) (hb0 : v.length < 40) (hp : rp.isPrefixOf v = true)
    (h : ∀ h' tk', KeepAll s.heap h' → Q .none { s with heap := h', toks := tk' }) :
    wpAny (model PG w) A (call (.ref 152) [.ref r, .bytes v.toArray t]) Q E s := by
  refine wpAny_call ?_
  refine' enter_def (binds := [(Str.ofString "self", Value.ref r), (Str.ofString "ref", Value.bytes v.toArray t)]) (X.keeps hb) (T.keeps hb) ?k6 ?k7 ?k8 ?k9 ?kB ?_ ?c2 ?c3 ?c4 ?c5
  case k6 => k_is
  case k7 => k_is
  case k8 => omega
  case k9 => exact BindsTo.of_eq rfl
  case kB => exact locs rfl
  case c2 => exact rfl
  case c3 => exact rfl
  case c4 => exact rfl
  case c5 => decide
  intro L' h' hL F'
  have N' : News s.heap L' h' [] := News.nil
  have X' := X.keeps hb
  have T' := T.keeps hb
  have hrefl : KeepAll s.heap s.heap := fun _ _ e => e
  clear X T hb
  (try dsimp only)
  (try k_fold)
  k_steps
  exact h _ _ (Fr.keep (by k_asm))
end
end
end
example : ∀ w A s Q E, TZ w A s Q E → TZ w A s Q E := by intro w A s Q E h; w_top off; first | (walk1; fail) | exact h
section
def gE3.siteTag : Unit := ()
open gE3
section
variable {p9 : Program} {lo9 : List Str} {w : World} {A : Around} {s : Shared} {base : Heap} {mg mb : Str → Option Value} {mean : ExcName → Option Value} {Q E : Value → Shared → Prop}
example : True := by
  k_with "gE3 call ref" => (k_here; (try dsimp only [List.nil_append, List.cons_append, List.append_nil]); (with_reducible show wpAny _ _ (call (Value.ref 60) _) _ _ _); k_dflt (refine' spec_invalid ?sX ?sT ?sb ?sr ?su ?sh ?s0 ?_; (case sb => exact keep_base (by k_asm) (by k_asm)); (case sX => k_asm); (case sT => k_asm); (case sr => k_room); (case su => k_units); (case sh => k_asm); (case s0 => k_asm)); (all_goals first | ((with_reducible intro h' tk' kk'); (have F' := fr_keepAll (by k_asm) kk'); (have N' := news_keepAll (by k_asm) kk'); (try k_sweep))))
  trivial
set_option maxHeartbeats 400000 in
theorem spec_chkv3 {r : Addr} {v : Bts} {t : Tok} {fs : List Env} (X : (hd.heap_1 w.params).In base) (T : Top p9 lo9 mean mg mb base) (hb : KeepAll base s.heap) (hroom : A.depth + 8 < recursionLimit) (hun : A.units + 80 < cLine) (hhd : A.handled = none) (hA : A.frames = some fs) (hfs : FramesOk s.heap fs) (hb0 : v.length < 40) (hp : rp.isPrefixOf v = false) (hv : v = badVr)
    (hE : ∀ h' tk' e, RaisedH s.heap fs e (.type "ValueError") h' → E (.ref e) { s with heap := h', toks := tk' }) :
    wpAny (model PG w) A (call (.ref 152) [.ref r, .bytes v.toArray t]) Q E s := by
  refine wpAny_call ?_
  refine' enter_def (binds := [(Str.ofString "self", Value.ref r), (Str.ofString "ref", Value.bytes v.toArray t)]) (X.keeps hb) (T.keeps hb) ?k6 ?k7 ?k8 ?k9 ?kB ?_ ?c2 ?c3 ?c4 ?c5
  case k6 => k_is
  case k7 => k_is
  case k8 => omega
  case k9 => exact BindsTo.of_eq rfl
  case kB => exact locs rfl
  case c2 => exact rfl
  case c3 => exact rfl
  case c4 => exact rfl
  case c5 => decide
  intro L' h' hL F'
  have N' : News s.heap L' h' [] := News.nil
  have X' := X.keeps hb
  have T' := T.keeps hb
  have hrefl : KeepAll s.heap s.heap := fun _ _ e => e
  clear X T hb
  (try dsimp only)
  (try k_fold)
  k_steps
  subst hv
  refine repr_bad fun x9 t9 hx9 => ?_
  (iterate 6 (first | walk1 | (dsimp only; walk1)))
  have hy9 : (Str.empty ++ x9 ++ Str.ofString " must be a valid sha or a symref").length ≤ sizeLine := by
    have e1 : (Str.ofString " must be a valid sha or a symref").length ≤ 100 := by decide +kernel
    have e2 : Str.empty.length = 0 := rfl
    rw [Str.length_append, Str.length_append, sizeLine_eq]
    omega
  generalize (Str.empty ++ x9 ++ Str.ofString " must be a valid sha or a symref") = y9 at hy9 ⊢
  dsimp only [evalEach]
  refine joinParts_nil ?_ hy9
  k_steps
  intro h5 e5 x5
  exact leave_made (s := ⟨h5, _, _, _, _⟩) x5 (by k_asm) hA hfs (Fr.keep (by k_asm)) (hL ▸ fresh_size _) rfl rfl fun _ R => hE _ _ _ R
end
end
example : ∀ w A s Q E, TZ w A s Q E → TZ w A s Q E := by intro w A s Q E h; w_top off; first | (walk1; fail) | exact h
section
theorem takeB_eq {id : String} {b : Array UInt8} {t : Tok} : Builtin.Bytes.takeBufferQuiet? id (.bytes b t) 0 = pure (some (b, none)) := by
  unfold Builtin.Bytes.takeBufferQuiet? Builtin.Bytes.takeBuffer?
  rw [KBy.special_eq KBy.look_buffer, KBy.own_buffer]
  have e : (decide ((0 : Int) = Builtin.Bytes.fullReadOnly)) = false := by decide
  have e2 : ((0 : Int) == Builtin.Bytes.fullReadOnly) = false := by decide
  rw [e2, KBy.buffer_eq]
  kernel_rfl
section
variable {w : World} {A : Around} {E : Value → Shared → Prop} {s : Shared}
theorem join_gen2 {a : Addr} {fp wr : List Addr} {gk : Nat} {P : Nat → Value → Prop} {St : Nat → Shared → Prop} {x y sp : Array UInt8} {t : Tok} {Q : Value → Shared → Prop}
    (W : WalksS PG w A.in4 a fp wr (GenOnlyQ gk) 2 P St) (hT : ∀ i s, St i s → s.TypeIs (.ref a) "generator") (hst : St 0 s) (hfp : ∀ b ∈ fp, b < s.heap.objs.size) (hI : a ∈ fp)
    (hP0 : ∀ v, P 0 v → ∃ u, v = .bytes x u) (hP1 : ∀ v, P 1 v → ∃ u, v = .bytes y u) (hz : sp.size ≤ 64 ∧ x.size ≤ 64 ∧ y.size ≤ 64)
    (hq : ∀ s' t' k, Moved (s.heap.objs.size :: wr) (GenOnlyQ gk) s s' → Q (.bytes (x ++ sp ++ y) t') { s' with toks := k }) :
    wpAny (model PG w) A (call (.builtin "bytes.join") [.bytes sp t, .ref a]) Q E s := by
  refine wpAny_call_entry BF.slot_join (typeIs_bytes _ _ _) BF.entry_join ?_ (BF.args_join _ _)
  unfold Builtin.«bytes.join» Builtin.Bytes.joinM
  refine wpAny_bind (wpAny_of_eq (a := (Value.bytes sp t, Value.ref a)) (by kernel_rfl) ?_)
  dsimp only
  refine wpAny_bind ?_
  show wpAny _ _ (Builtin.Bytes.joinItems (.ref a)) _ _ _
  unfold Builtin.Bytes.joinItems
  refine wpAny_bind (wpAny_typeOf (hT 0 s hst) ?_)
  show wpAny _ A.in1 ((pyIter (.ref a)).tryCatch _ >>= fun it => call (.type "list") [it]) _ _ s
  have W3 : WalksS PG w A.in1.in1.in1 a fp wr (GenOnlyQ gk) 2 P St := W.of_in1
  refine wpAny_bind (wpAny_tryCatch (W3.of_in1.of_in1.self 0 s _ _ hst ?_))
  refine call_list_gen (A := A.in1) W3 hT hst hfp hI fun s' acc c' hm hg hacc => ?_
  obtain ⟨u0, u1, rfl⟩ : ∃ u0 u1, acc = #[.bytes x u0, .bytes y u1] := by
    obtain ⟨v0, v1, rfl⟩ : ∃ v0 v1, acc = #[v0, v1] := by
      obtain ⟨l⟩ := acc
      obtain ⟨v0, v1, e⟩ := two_of hacc.1
      exact ⟨v0, v1, congrArg Array.mk e⟩
    obtain ⟨u0, rfl⟩ := hP0 v0 (hacc.2 0 v0 rfl)
    obtain ⟨u1, rfl⟩ := hP1 v1 (hacc.2 1 v1 rfl)
    exact ⟨u0, u1, rfl⟩
  refine wpAny_bind (wpAny_seqItems hg rfl ?_)
  dsimp only
  with_unfolding_all show wpAny _ _ (forIn [:2] _ _ >>= _) _ _ _
  refine wpAny_bind ?_
  rw [Std.Legacy.Range.forIn_eq_forIn_range']
  show wpAny _ _ (forIn [0, 1] _ _) _ _ _
  rw [List.forIn_cons]
  refine wpAny_bind (wpAny_bind (wpAny_seqItems hg rfl ?_))
  with_unfolding_all show wpAny _ _ (holding _ (Builtin.Bytes.takeBufferQuiet? _ (Value.bytes x u0) 0) >>= _) _ _ _
  refine wpAny_bind (wpAny_holding (wpAny_of_eq takeB_eq ?_))
  refine wpAny_bind (wpAny_seqItems hg rfl ?_)
  with_unfolding_all show wpAny _ _ (pure (ForInStep.yield (#[x], [(Value.bytes x u0, none)]))) _ _ _
  refine wpAny_pure ?_
  dsimp only
  rw [List.forIn_cons]
  refine wpAny_bind (wpAny_bind (wpAny_seqItems hg rfl ?_))
  with_unfolding_all show wpAny _ _ (holding _ (Builtin.Bytes.takeBufferQuiet? _ (Value.bytes y u1) 0) >>= _) _ _ _
  refine wpAny_bind (wpAny_holding (wpAny_of_eq takeB_eq ?_))
  refine wpAny_bind (wpAny_seqItems hg rfl ?_)
  with_unfolding_all show wpAny _ _ (pure (ForInStep.yield (#[x, y], [(Value.bytes x u0, none), (Value.bytes y u1, none)]))) _ _ _
  refine wpAny_pure ?_
  dsimp only
  rw [List.forIn_nil]
  refine wpAny_pure ?_
  refine wpAny_bind (wpAny_of_eq (a := sp) rfl ?_)
  have e9 : Builtin.Bytes.joined sp [x, y] = x ++ sp ++ y := by simp [Builtin.Bytes.joined]
  have hs9 : (x ++ sp ++ y).size ≤ 64 + 64 + 64 := by simp only [Array.size_append]; omega
  have htl : Builtin.Bytes.tooLong (Array.foldl (fun (x1 : Nat) (x2 : Array UInt8) => x1 + x2.size) (sp.size * (2 - 1)) #[x, y]) = false := by
    refine KBy.tooLong_not ?_
    simp only [Array.size_append] at hs9
    show sp.size * (2 - 1) + x.size + y.size ≤ 16777216
    omega
  with_unfolding_all show wpAny _ _ (if Builtin.Bytes.tooLong (Array.foldl (fun (x1 : Nat) (x2 : Array UInt8) => x1 + x2.size) (sp.size * (2 - 1)) #[x, y]) = true then _ else _) _ _ _
  rw [htl, if_neg (by decide)]
  with_unfolding_all show wpAny _ _ (Builtin.Bytes.Kind.bytes.new (Builtin.Bytes.joined sp [x, y]) >>= _) _ _ _
  rw [e9]
  refine wpAny_bind (wpAny_mkBytes ?_ (by rw [sizeLine_eq]; omega))
  refine wpAny_bind (wpAny_holding (wpAny_point ?_))
  refine wpAny_bind ?_
  with_unfolding_all show wpAny _ _ (letGo _ _ >>= fun _ => letGo _ _ >>= fun _ => pure ()) _ _ _
  refine wpAny_bind (wpAny_letGo (wpAny_bind (wpAny_letGo (wpAny_pure (wpAny_pure ⟨_, rfl, ?_⟩)))))
  refine hq s' _ _ ⟨fun b o hb e => hm.heap b o hb (Heap.get?_push_of_some _ e), hm.gens, hm.drawn, hm.os, hm.toks⟩
end
end
example : ∀ w A s Q E, TZ w A s Q E → TZ w A s Q E := by intro w A s Q E h; w_top off; first | (walk1; fail) | exact h
section
noncomputable def TurnTo (Q : Flow → Shared → Prop) (J : Shared → Prop) : Flow → Shared → Prop
  | .next, s => J s
  | .cont, s => J s
  | .brk, s => Q .next s
  | .ret v, s => Q (.ret v) s
theorem turnP {M : Model} {A A2 : Around} {α : Type} {a : Sem α} {b : Sem Flow} {Q' : Flow → Shared → Prop} {T : Shared → Prop} {E' E2 : Value → Shared → Prop} {s : Shared} (k : ∀ P : Shared → Prop, (∀ s4, T s4 → P s4) → wpAny M A a (fun _ s₃ => wpAny M A2 b (TurnTo Q' P) E2 s₃) E' s) : wpAny M A a (fun _ s₃ => wpAny M A2 b (TurnTo Q' T) E2 s₃) E' s := k T fun _ h => h
noncomputable def ForIt (prog : Program) (w : World) (A : Around) (env : Env) (target : PySem.Expr) (body : List Stmt) (Q : Flow → Shared → Prop) (E : Value → Shared → Prop) (it : Value) (s : Shared) : Prop :=
  ∃ (n : Nat) (J : Nat → Shared → Prop), J n s ∧ ∀ k s', J k s' → wpAny (model prog w) A (pyNext it) (fun r s₁ => match r with
    | none => Q .next s₁
    | some v => wpAny (model prog w) A (letOwnedTupleGo target it v) (fun _ s₂ => wpAny (model prog w) A (assign target env v) (fun _ s₃ =>
        wpAny (model prog w) A (execs body env) (TurnTo Q fun s₄ => ∃ m, m < k ∧ J m s₄) E s₃) E s₂) E s₁) E s'
section
variable {prog : Program} {w : World} {A : Around} {E : Value → Shared → Prop} {s : Shared} {env : Env} {Q : Flow → Shared → Prop} {target iter : PySem.Expr} {body : List Stmt} {pos : Pos}
theorem for_free (h : wpAny (model prog w) A (eval iter env) (fun xv s₁ => wpAny (model prog w) A (pyIter xv) (fun it s₂ => ForIt prog w A env target body Q E it s₂) E s₁) E s)
    (hs : ∀ x, foldedSetIterable iter env x = pure x := by intro _; rfl) (hE : PassesOwn (model prog w) A env E := by passes_own) :
    wpAny (model prog w) A (exec (.For target iter body [] pos) env) Q E s := by
  refine wpAny_For (wpAny_mono h (fun xv s₁ h₁ => wpAny_mono h₁ (fun it s₂ h₂ => ?_) fun _ _ e => e) fun _ _ e => e) hs
  obtain ⟨n, J, h0, turn⟩ := h₂
  refine codeAny_forLoop_any J (fun k s' hJ => wpAny_passesOwn hE (wpAny_mono (turn k s' hJ) (fun r s₁ h₁ => ?_) fun _ _ e => e)) n h0
  cases r with
  | none => exact wpAny_execs_nil h₁
  | some v =>
    refine wpAny_passesOwn hE (wpAny_mono h₁ (fun _ s₂ h₂ => wpAny_passesOwn hE (wpAny_mono h₂ (fun _ s₃ h₃ => wpAny_passesOwn hE (wpAny_mono h₃ (fun f s₄ h₄ => ?_) fun _ _ e => e)) fun _ _ e => e)) fun _ _ e => e)
    cases f with
    | next => exact h₄
    | cont => exact h₄
    | brk => exact h₄
    | ret v => exact h₄
theorem for_list {l : Addr} {vs : List Value} (hh : A.handled = none) (hl : s.heap.IsList l vs.toArray) (hgo : ∀ v (s' : Shared) (Q' : Unit → Shared → Prop) (E' : Value → Shared → Prop), Q' () s' → wpAny (model prog w) A (letOwnedTupleGo target (.ref s.heap.objs.size) v) Q' E' s')
    (J : Nat → Shared → Prop) (h0 : J 0 { s with heap := s.heap.push { cls := .type "list_iterator", data := .fields #[.ref l, .int 0 0] } })
    (look : ∀ i s', J i s' → s'.heap.IsListIter s.heap.objs.size l i ∧ s'.heap.IsList l vs.toArray)
    (step : ∀ (Q' : Flow → Shared → Prop) (E' : Value → Shared → Prop) i v s' h', vs[i]? = some v → J i s' → h'.IsListIter s.heap.objs.size l (i + 1) → Heap.SameBut s.heap.objs.size s'.heap h' →
      wpAny (model prog w) A (assign target env v) (fun _ s₃ => wpAny (model prog w) A (execs body env) (TurnTo Q' (J (i + 1))) E' s₃) E' { s' with heap := h' })
    (done : ∀ s' h', J vs.length s' → Heap.ExtBut s.heap.objs.size s'.heap h' → Q .next { s' with heap := h' }) :
    wpAny (model prog w) A (pyIter (.ref l)) (fun it s₂ => ForIt prog w A env target body Q E it s₂) E s := by
  refine wpAny_pyIter_list hl ⟨vs.length + 1, fun k s' => ∃ i, J i s' ∧ i ≤ vs.length ∧ k = vs.length + 1 - i, ⟨0, h0, Nat.zero_le _, rfl⟩, ?_⟩
  rintro k s' ⟨i, hJ, hi, rfl⟩
  obtain ⟨hit, hls⟩ := look i s' hJ
  cases hv : vs[i]? with
  | none =>
    have hin : i = vs.length := Nat.le_antisymm hi (by simpa using hv)
    subst hin
    exact wpAny_pyNext_list_end hh hit hls (by simpa using hv) fun h' he => done s' h' hJ he
  | some v =>
    have hlt : i < vs.length := (List.getElem?_eq_some_iff.mp hv).1
    refine wpAny_pyNext_list_item hit hls (x := v) (by simpa using hv) fun h' hit' hs' => hgo _ _ _ _ (wpAny_mono (step Q E i v s' h' hv hJ hit' hs') (fun _ s₃ h₃ => wpAny_mono h₃ (fun f s₄ h₄ => ?_) fun _ _ e => e) fun _ _ e => e)
    have tr : J (i + 1) s₄ → ∃ m, m < vs.length + 1 - i ∧ ∃ i, J i s₄ ∧ i ≤ vs.length ∧ m = vs.length + 1 - i := fun q => ⟨vs.length + 1 - (i + 1), by omega, i + 1, q, hlt, rfl⟩
    cases f with
    | next => exact tr h₄
    | cont => exact tr h₄
    | brk => exact h₄
    | ret v => exact h₄
theorem go_name {x : Str} {px : Pos} {it v : Value} {s' : Shared} {Q' : Unit → Shared → Prop} {E' : Value → Shared → Prop} (h : Q' () s') : wpAny (model prog w) A (letOwnedTupleGo (.Name x px) it v) Q' E' s' := wpAny_pure h
end
end
example : ∀ w A s Q E, TZ w A s Q E → TZ w A s Q E := by intro w A s Q E h; w_top off; first | (walk1; fail) | exact h
section
open KBw
set_option maxHeartbeats 1000000 in
theorem meets_enum_newB (x : Array UInt8) (t : Tok) :
    Meets (Builtin.«enumerate.__new__» ⟨[.type "enumerate", .bytes x t], []⟩) (fun _ R s =>
      R (.ok (.ret (.ref (s.heap.push { cls := .type "bytes_iterator", data := .fields #[.bytes x t, .int 0 0] }).objs.size)))
        { s with heap := (s.heap.push { cls := .type "bytes_iterator", data := .fields #[.bytes x t, .int 0 0] }).push { cls := .type "enumerate", data := .fields #[.none, .bool false, .ref s.heap.objs.size, rawInt 0, .none, .none] } }) :=
  .of_wp fun prog w A R s h => by
    obtain ⟨hp, g, d, tk, os⟩ := s
    have hsub := sub_enumerate
    wp_walk
    refine wpAny_stack_any fun st => wpAny_pure ?_
    split
    · rename_i c _ _ _ _ _
      cases (c == Value.type "enumerate")
      · wp_walk using pyIter_bytes
        exact ⟨_, rfl, h⟩
      · wp_walk using pyIter_bytes
        exact ⟨_, rfl, h⟩
    · wp_walk using pyIter_bytes
      exact ⟨_, rfl, h⟩
section
variable {prog : Program} {w : World} {A : Around} {E : Value → Shared → Prop} {s : Shared}
theorem call_enum_bytes {x : Array UInt8} {t : Tok} {Q : Value → Shared → Prop}
    (h : ∀ h', IsEnum h' (s.heap.objs.size + 1) s.heap.objs.size 0 .none → IsBytesIter h' s.heap.objs.size x t 0 → h'.objs.size = s.heap.objs.size + 2 →
      (∀ b o, s.heap.get? b = some o → h'.get? b = some o) → Q (.ref (s.heap.objs.size + 1)) { s with heap := h' }) :
    wpAny (model prog w) A (call (.type "enumerate") [.bytes x t]) Q E s := by
  refine callType_new F.called_enumerate (by decide) (F.typeCall_enumerate_1 _) (F.newCall_enumerate_1 _) (fun obj => F.args_object_init_2 obj _) F.entry_enumerate_new
    (meets_enum_newB x t) ?_
  have hz : (s.heap.push { cls := .type "bytes_iterator", data := .fields #[.bytes x t, .int 0 0] }).objs.size = s.heap.objs.size + 1 := Heap.size_push ..
  show _ ∧ _
  rw [hz]
  have he : IsEnum ((s.heap.push { cls := .type "bytes_iterator", data := .fields #[.bytes x t, .int 0 0] }).push
      { cls := .type "enumerate", data := .fields #[.none, .bool false, .ref s.heap.objs.size, rawInt 0, .none, .none] }) (s.heap.objs.size + 1) s.heap.objs.size 0 .none := by
    have := Heap.get?_push_size (s.heap.push { cls := .type "bytes_iterator", data := .fields #[.bytes x t, .int 0 0] })
      (o := { cls := .type "enumerate", data := .fields #[.none, .bool false, .ref s.heap.objs.size, rawInt 0, .none, .none] }) rfl
    rw [hz] at this; exact this
  refine ⟨⟨_, he, rfl⟩, h _ he ⟨_, Heap.get?_push_of_some _ (Heap.get?_push_size _ rfl), rfl, rfl⟩ (by rw [Heap.size_push, hz]) fun b o y => Heap.get?_push_of_some _ (Heap.get?_push_of_some _ y)⟩
theorem nextOf_item {it : Addr} {b : Array UInt8} {t : Tok} {i : Nat} {c : UInt8} {Q : Value → Shared → Prop} (hit : IsBytesIter s.heap it b t i) (hx : b[i]? = some c)
    (hQ : ∀ h', IsBytesIter h' it b t (i + 1) → Heap.SameBut it s.heap h' → Q (.int (c.toNat : Int) s.toks) { s with heap := h', toks := s.toks + 1 }) :
    wpAny (model prog w) A (Builtin.SmallTypes.nextOf (.ref it)) Q E s := by
  obtain ⟨o, ho, hc, hd⟩ := id hit
  unfold Builtin.SmallTypes.nextOf
  refine wpAny_bind (wpAny_callSpecial?_slot (name := PySem.Str.ofString "__next__") (iter_typeIs hit) slot_next
    (wpAny_call_entry slot_next (iter_typeIs hit) entry_next ?_ (args_next _)))
  show wpAny _ _ (field (.ref it) 0 >>= _) _ _ s
  refine wpAny_bind (wpAny_field ho hd (x := .bytes b t) rfl ?_)
  show wpAny _ _ (if (Value.bytes b t == Value.none) = true then _ else _) _ _ s
  rw [if_neg (show ¬ ((Value.bytes b t == Value.none) = true) from Bool.false_ne_true)]
  show wpAny _ _ (field (.ref it) 1 >>= _) _ _ s
  refine wpAny_bind (wpAny_field ho hd (x := .int i 0) rfl ?_)
  refine wpAny_bind (wpAny_of_eq (a := b) rfl ?_)
  simp only [Int.toNat_natCast, hx]
  refine wpAny_bind (wpAny_setField ho hd (by simp) (wpAny_bind (wpAny_mkInt (wpAny_pure ⟨_, rfl, wpAny_pure (hQ _ ?_ (Heap.SameBut.update ..))⟩))))
  exact ⟨_, Heap.get?_update_self _ ho (Obj.isFreed_of_fields (Obj.data_mapFields hd _)), (Obj.cls_mapFields ..).trans hc, by
    rw [Obj.data_mapFields hd]; simp [rawInt]⟩
theorem nextOf_end {it : Addr} {b : Array UInt8} {t : Tok} {i : Nat} {Q : Value → Shared → Prop} (hh : A.handled = none) (hit : IsBytesIter s.heap it b t i) (hx : b[i]? = none)
    (hE : ∀ h' e, Heap.ExtBut it s.heap h' → (∃ o, h'.get? e = some o ∧ o.cls = .type "StopIteration") → E (.ref e) { s with heap := h' }) :
    wpAny (model prog w) A (Builtin.SmallTypes.nextOf (.ref it)) Q E s := by
  obtain ⟨o, ho, hc, hd⟩ := id hit
  unfold Builtin.SmallTypes.nextOf
  refine wpAny_bind (wpAny_callSpecial?_slot (name := PySem.Str.ofString "__next__") (iter_typeIs hit) slot_next
    (wpAny_call_entry slot_next (iter_typeIs hit) entry_next ?_ (args_next _)))
  show wpAny _ _ (field (.ref it) 0 >>= _) _ _ s
  refine wpAny_bind (wpAny_field ho hd (x := .bytes b t) rfl ?_)
  show wpAny _ _ (if (Value.bytes b t == Value.none) = true then _ else _) _ _ s
  rw [if_neg (show ¬ ((Value.bytes b t == Value.none) = true) from Bool.false_ne_true)]
  show wpAny _ _ (field (.ref it) 1 >>= _) _ _ s
  refine wpAny_bind (wpAny_field ho hd (x := .int i 0) rfl ?_)
  refine wpAny_bind (wpAny_of_eq (a := b) rfl ?_)
  simp only [Int.toNat_natCast, hx]
  refine wpAny_bind (wpAny_rule (wpAny_bind (wpAny_setField ho hd (by simp) ?_)))
  show wpAny _ _ (newExc (.type "StopIteration") [] >>= _) _ _ _
  refine wpAny_bind ?_
  simp only [newExc, newTuple]
  refine wpAny_bind (wpAny_newObj_type ?_ (by size_fits))
  refine wpAny_bind (m := firstArgMember _ _) (wpAny_of_eq (a := Value.none) (by first | rfl | (simp only [firstArgMember]; rfl)) ?_)
  refine wpAny_newObj_type ?_ (by size_fits)
  simp only [raiseNew]
  refine wpAny_bind (wpAny_handled ?_)
  first | rw [show A.in1.handled = none from hh] | rw [hh]
  refine wpAny_bind (wpAny_pure (wpAny_throw ?_))
  exact hE _ _ (((Heap.SameBut.update ..).extBut.push _).push _) ⟨_, Heap.get?_push_size _ rfl, rfl⟩
end
theorem drawsB {prog : Program} {w : World} {A : Around} (hh : A.handled = none) (it : Addr) (b : Array UInt8) (t : Tok) :
    Draws prog w A it [it] b.size (fun i v => ∃ c u, b[i]? = some c ∧ v = .int (c.toNat : Int) u) (fun i h => IsBytesIter h it b t i) where
  live := fun _ _ st => let ⟨o, ho, _⟩ := st; ⟨o, ho⟩
  frame := fun _ _ _ st hk => let ⟨o, ho, r⟩ := st; ⟨o, hk it (by simp) o ho, r⟩
  item := fun i s Q E hi st hQ => by
    refine nextOf_item st (c := b[i]) (by simp [hi]) fun h' hit' hs' => ?_
    exact hQ _ h' (s.toks + 1) ⟨_, _, by simp [hi], rfl⟩ hit' hs'
  done := fun s Q E st hE => nextOf_end hh st (by simp) hE
theorem for_walksT {prog : Program} {w : World} {A : Around} {E : Value → Shared → Prop} {s : Shared} {env : Env} {Q : Flow → Shared → Prop} {elts : List PySem.Expr} {kt : Nat} {pt : Pos} {body : List Stmt} {it : Addr} {fp wr : List Addr} {n : Nat} {Pt : Nat → Array Value → Prop} {St : Nat → Heap → Prop} {Mid : Nat → Addr → Heap → Prop} (W : WalksT prog w A it fp wr n Pt St Mid) (R : Value → Shared → Prop) (hR : ∀ v s', R v s' → Q (.ret v) s')
    (J : Nat → Shared → Prop) (h0 : J 0 s) (look : ∀ i s', J i s' → St i s'.heap)
    (step : ∀ (Q' : Flow → Shared → Prop) (E' : Value → Shared → Prop) i T vals s' h' tk, (∀ v s', R v s' → Q' (.ret v) s') → i < n → Pt i vals → J i s' → St (i + 1) h' → @LE.le Nat _ s'.heap.objs.size T → T ∉ wr → h'.IsTuple T vals → (∀ b o, b ∉ wr → s'.heap.get? b = some o → h'.get? b = some o) →
      wpAny (model prog w) A (assign (.Tuple elts kt pt) env (.ref T)) (fun _ s₃ => wpAny (model prog w) A (execs body env) (TurnTo Q' (J (i + 1))) E' s₃) E' { s' with heap := h', toks := tk })
    (done : ∀ s' h' tk, J n s' → (∀ b o, b ∉ wr → s'.heap.get? b = some o → h'.get? b = some o) → Q .next { s' with heap := h', toks := tk }) : ForIt prog w A env (.Tuple elts kt pt) body Q E (.ref it) s := by
  refine ⟨n + 1, fun k s' => ∃ i, J i s' ∧ i ≤ n ∧ k = n + 1 - i, ⟨0, h0, Nat.zero_le _, rfl⟩, ?_⟩
  rintro k s' ⟨i, hJ, hi, rfl⟩
  have hst := look i s' hJ
  by_cases hlt : i < n
  · refine W.item i s' _ _ hlt hst fun T vals h' tk hP hle hT hM hk => ?_
    refine W.go elts kt pt i T _ _ _ hM fun h'' hst' hk2 => ?_
    have hTw := W.apart i T h' hM
    have hT2 : h''.IsTuple T vals := by obtain ⟨o, ho, r⟩ := hT; exact ⟨o, hk2 _ _ hTw ho, r⟩
    refine wpAny_mono (step Q E i T vals s' h'' tk hR hlt hP hJ hst' hle hTw hT2 fun b o hb e => hk2 b o hb (hk b o hb e)) (fun _ s₃ h₃ => wpAny_mono h₃ (fun f s₄ h₄ => ?_) fun _ _ e => e) fun _ _ e => e
    have tr : J (i + 1) s₄ → ∃ m, m < n + 1 - i ∧ ∃ i, J i s₄ ∧ i ≤ n ∧ m = n + 1 - i := fun q => ⟨n + 1 - (i + 1), by omega, i + 1, q, hlt, rfl⟩
    cases f with
    | next => exact tr h₄
    | cont => exact tr h₄
    | brk => exact h₄
    | ret v => exact h₄
  · have hin : i = n := by omega
    subst hin
    exact W.done s' _ _ hst fun h' tk hk => done s' h' tk hJ hk
end
example : ∀ w A s Q E, TZ w A s Q E → TZ w A s Q E := by intro w A s Q E h; w_top off; first | (walk1; fail) | exact h
section
open KBw
section
variable {w : World} {A : Around} {E : Value → Shared → Prop} {s : Shared} {env : Env} {g : Heap} {L : Addr} {m : Str → Option Value} {news : List (Addr × Obj)} {b : Array UInt8} {t : Tok}
inductive EnumTurn (g : Heap) (L : Addr) (s : Shared) (e it : Addr) (oe oi : Obj) (news : List (Addr × Obj)) (J : (Str → Option Value) → Prop) (s4 : Shared) : Prop
  | mk (h4 : Heap) (tk4 : Nat) (m4 : Str → Option Value) (q : s4 = { s with heap := h4, toks := tk4 }) (F : Fr g L h4 m4) (N : News g L h4 ((e, oe) :: (it, oi) :: news)) (j : J m4)
inductive EnumAt (g : Heap) (L : Addr) (s : Shared) (b : Array UInt8) (t : Tok) (news : List (Addr × Obj)) (J : Nat → (Str → Option Value) → Prop) (i : Nat) (s' : Shared) : Prop
  | mk (h2 : Heap) (tk2 : Nat) (m2 : Str → Option Value) (e : s' = { s with heap := h2, toks := tk2 }) (F : Fr g L h2 m2) (N : News g L h2 news) (q : ∃ old, IsEnum h2 (s.heap.objs.size + 1) s.heap.objs.size i old) (x : IsBytesIter h2 s.heap.objs.size b t i) (j : J i m2)
theorem for_enum {elts : List PySem.Expr} {kt : Nat} {pt : Pos} {body : List Stmt} {Q : Flow → Shared → Prop} (hh : A.handled = none) (F : Fr g L s.heap m) (N : News g L s.heap news) (J : Nat → (Str → Option Value) → Prop) (h0 : J 0 m) (R : Value → Shared → Prop) (hR : ∀ v s', R v s' → Q (.ret v) s')
    (step : ∀ (Q' : Flow → Shared → Prop) (E' : Value → Shared → Prop) i c T t1 u1 e it oe oi m1 h1 tk1, (∀ v s', R v s' → Q' (.ret v) s') → b[i]? = some c → J i m1 → Fr g L h1 m1 → News g L h1 ((e, oe) :: (it, oi) :: news) → h1.IsTuple T #[.int i t1, .int (c.toNat : Int) u1] → T ≠ L →
      (∀ p ∈ news, @LT.lt Nat _ p.1 e) → (∀ p ∈ news, @LT.lt Nat _ p.1 it) →
      wpAny (model PG w) A (assign (.Tuple elts kt pt) env (.ref T)) (fun _ s₃ => wpAny (model PG w) A (execs body env) (TurnTo Q' (EnumTurn g L s e it oe oi news (J (i + 1)))) E' s₃) E' { s with heap := h1, toks := tk1 })
    (fin : ∀ m' h' tk', J b.size m' → Fr g L h' m' → News g L h' news → Q .next { s with heap := h', toks := tk' }) :
    wpAny (model PG w) A (call (.type "enumerate") [.bytes b t]) (fun xv s₁ => wpAny (model PG w) A (pyIter xv) (fun it s₂ => ForIt PG w A env (.Tuple elts kt pt) body Q E it s₂) E s₁) E s := by
  refine call_enum_bytes fun hp he hit hsz hk => ?_
  refine wpAny_pyIter_enum he ?_
  have hLlt := F.ns.lt
  have hnew : ∀ p ∈ news, @LT.lt Nat _ p.1 s.heap.objs.size := fun p hp' => Heap.lt_size (N p hp').1
  have hg : ∀ a, s.heap.objs.size ≤ a → g.get? a = none := fun a ha => Heap.get?_none_of_le (Nat.le_trans F.above (Nat.le_trans (Nat.le_of_lt hLlt) ha))
  refine for_walksT (WalksT.enumerateD (drawsB (by simp [hh]) s.heap.objs.size b t) (s.heap.objs.size + 1) (Nat.succ_ne_self _) (by simp) (.head _)) R hR
    (J := EnumAt g L s b t news J) ?_ ?_ ?_ ?_
  · exact ⟨hp, s.toks, m, rfl, F.keeps hk, news_keepAll N hk, ⟨_, he⟩, hit, h0⟩
  · rintro i s' ⟨h2, tk2, m2, rfl, F2, N2, e2, i2, hJ⟩
    exact ⟨e2, i2⟩
  · rintro Q' E' i T vals s' h' tk hRq hi ⟨t1, x, ⟨c, u, hc, rfl⟩, rfl⟩ ⟨h2, tk2, m2, rfl, F2, N2, e2, i2, hJ⟩ ⟨⟨old, e3⟩, i3⟩ hle hTw hT hk2
    have hnw : ∀ a, a < s.heap.objs.size → a ∉ [s.heap.objs.size + 1, s.heap.objs.size] := fun a ha hm => by
      simp only [List.mem_cons, List.not_mem_nil, or_false] at hm
      omega
    have F3 : Fr g L h' m2 := ⟨F2.ns.at' fun o q => hk2 _ _ (hnw _ hLlt) q, fun a o q => hk2 _ _ (hnw a (Nat.lt_of_not_le fun hge => by rw [hg a hge] at q; cases q)) (F2.keep _ _ q), F2.above⟩
    obtain ⟨oi, hoi, ci, di⟩ := id i3
    obtain ⟨oe, e3', hoe⟩ : ∃ oe, h'.get? (s.heap.objs.size + 1) = some oe ∧ ∀ h4 : Heap, h4.get? (s.heap.objs.size + 1) = some oe → IsEnum h4 (s.heap.objs.size + 1) s.heap.objs.size ((i + 1 : Nat)) old := ⟨_, e3, fun _ q => q⟩
    have N3 : News g L h' ((s.heap.objs.size + 1, oe) :: (s.heap.objs.size, oi) :: news) := fun p hp' => by
      rcases List.mem_cons.mp hp' with rfl | hp'
      · exact ⟨e3', by show s.heap.objs.size + 1 ≠ L; have : @LT.lt Nat _ L s.heap.objs.size := hLlt; omega, hg _ (Nat.le_succ _)⟩
      rcases List.mem_cons.mp hp' with rfl | hp'
      · exact ⟨hoi, Nat.ne_of_gt hLlt, hg _ (Nat.le_refl _)⟩
      · exact ⟨hk2 _ _ (hnw _ (hnew p hp')) (N2 p hp').1, (N2 p hp').2⟩
    have hTL : T ≠ L := fun q => by
      have h1 : h2.objs.size ≤ T := hle
      have h2' := F2.ns.lt
      rw [q] at h1
      exact Nat.lt_irrefl _ (Nat.lt_of_lt_of_le h2' h1)
    refine wpAny_mono (step Q' E' i c T t1 u _ _ _ _ m2 h' tk hRq hc hJ F3 N3 hT hTL (fun p hp' => Nat.lt_succ_of_lt (hnew p hp')) hnew) (fun _ s3 h3 => wpAny_mono h3 (fun f s4 h4 => ?_) fun _ _ e => e) fun _ _ e => e
    have tr : EnumTurn g L s (s.heap.objs.size + 1) s.heap.objs.size oe oi news (J (i + 1)) s4 → EnumAt g L s b t news J (i + 1) s4 := by
      rintro ⟨hq, tk4, m4, rfl, F4, N4, J4⟩
      exact ⟨hq, tk4, m4, rfl, F4, fun p hp' => N4 p (.tail _ (.tail _ hp')), ⟨_, hoe _ (N4 _ (.head _)).1⟩, ⟨oi, (N4 _ (.tail _ (.head _))).1, ci, di⟩, J4⟩
    cases f with
    | next => exact tr h4
    | cont => exact tr h4
    | brk => exact h4
    | ret v => exact h4
  · rintro s' h' tk ⟨h2, tk2, m2, rfl, F2, N2, e2, i2, hJ⟩ hk2
    have hnw : ∀ a, a < s.heap.objs.size → a ∉ [s.heap.objs.size + 1, s.heap.objs.size] := fun a ha hm => by
      simp only [List.mem_cons, List.not_mem_nil, or_false] at hm
      omega
    exact fin m2 h' tk hJ ⟨F2.ns.at' fun o q => hk2 _ _ (hnw _ hLlt) q, fun a o q => hk2 _ _ (hnw a (Nat.lt_of_not_le fun hge => by rw [hg a hge] at q; cases q)) (F2.keep _ _ q), F2.above⟩ fun p hp' => ⟨hk2 _ _ (hnw _ (hnew p hp')) (N2 p hp').1, (N2 p hp').2⟩
end
end
example : ∀ w A s Q E, TZ w A s Q E → TZ w A s Q E := by intro w A s Q E h; w_top off; first | (walk1; fail) | exact h
section
theorem slice_one {b : Bts} {i : Nat} {c : UInt8} (h : b[i]? = some c) : sliceB b (some (i : Int)) (some ((i : Int) + 1)) = [c] := by
  obtain ⟨hlt, e⟩ := List.getElem?_eq_some_iff.mp h
  unfold sliceB
  have e1 : ((i : Int) + 1) = ((i + 1 : Nat) : Int) := by omega
  simp only [Option.elim, e1, clip_nat]
  rw [Nat.min_eq_left (Nat.le_of_lt hlt), Nat.min_eq_left hlt]
  rw [List.drop_eq_getElem_cons hlt, e]
  simp
theorem gives_ordB (c : UInt8) (t : Tok) : Gives (Builtin.«ord» ⟨[.bytes #[c] t], []⟩) (.int c.toNat) := by
  refine .of_wp fun M A E s Q hq => ?_
  show wpAny M A (retInt (c.toNat : Int)) _ E s
  exact wpAny_bind (wpAny_mkInt (wpAny_pure ⟨_, rfl, hq⟩))
theorem ord_B {w : World} {A : Around} {E : Value → Shared → Prop} {s : Shared} {c : UInt8} {t : Tok} {Q : Value → Shared → Prop} (h : Q (.int c.toNat s.toks) { s with toks := s.toks + 1 }) : wpAny (model PG w) A (call (.builtin "ord") [.bytes #[c] t]) Q E s :=
  call_function_meets F.kind_ord F.plain_ord F.entry_ord (F.args_ord1 _) (gives_ordB c t).meets h
end
example : ∀ w A s Q E, TZ w A s Q E → TZ w A s Q E := by intro w A s Q E h; w_top off; first | (walk1; fail) | exact h
section
section
variable {w : World} {A : Around} {E : Value → Shared → Prop} {s : Shared} {env : Env} {g : Heap} {L it : Addr} {m : Str → Option Value} {news : List (Addr × Obj)} {target : PySem.Expr} {body : List Stmt} {Q : Flow → Shared → Prop} {fp : List Addr} {n : Nat} {P : Nat → Value → Prop} {St : Nat → Heap → Prop}
inductive WalkTurnI (g : Heap) (L : Addr) (gs : Array GenState) (dr : Drawn) (os : OsState) (it : Addr) (oi : Obj) (J : (Str → Option Value) → List (Addr × Obj) → Prop) (s4 : Shared) : Prop
  | mk (h4 : Heap) (tk4 : Nat) (m4 : Str → Option Value) (n4 : List (Addr × Obj)) (e : s4 = ⟨h4, gs, dr, tk4, os⟩) (F : Fr g L h4 m4) (N : News g L h4 ((it, oi) :: n4)) (ne : ∀ p ∈ n4, p.1 ≠ it) (j : J m4 n4)
noncomputable abbrev WalkTurn (g : Heap) (L : Addr) (s : Shared) (it : Addr) (oi : Obj) (J : (Str → Option Value) → List (Addr × Obj) → Prop) (s4 : Shared) : Prop := WalkTurnI g L s.gens s.drawn s.os it oi J s4
inductive WalkAt (g : Heap) (L : Addr) (s : Shared) (it : Addr) (n : Nat) (St : Nat → Heap → Prop) (J : Nat → (Str → Option Value) → List (Addr × Obj) → Prop) (k : Nat) (s' : Shared) : Prop
  | mk (i : Nat) (h2 : Heap) (tk2 : Nat) (m2 : Str → Option Value) (n2 : List (Addr × Obj)) (oi : Obj) (e : s' = { s with heap := h2, toks := tk2 }) (F : Fr g L h2 m2) (N : News g L h2 ((it, oi) :: n2)) (ne : ∀ p ∈ n2, p.1 ≠ it) (st : St i h2) (j : J i m2 n2) (hi : i ≤ n) (hk : k = n + 1 - i)
theorem for_walksL (W : Walks PG w A it fp [it] n P St) (live : ∀ i h, St i h → ∃ o, h.get? it = some o) (ob : Addr → Obj)
    (hgo : ∀ v (s' : Shared) (Q' : Unit → Shared → Prop) (E' : Value → Shared → Prop), Q' () s' → wpAny (model PG w) A (letOwnedTupleGo target (.ref it) v) Q' E' s')
    (J : Nat → (Str → Option Value) → List (Addr × Obj) → Prop) (hJ : ∀ i m1 n1, J i m1 n1 → ∀ b ∈ fp, b = it ∨ (b, ob b) ∈ n1)
    {oi0 : Obj} (F : Fr g L s.heap m) (N : News g L s.heap ((it, oi0) :: news)) (ne : ∀ p ∈ news, p.1 ≠ it) (hst : St 0 s.heap) (h0 : J 0 m news) (R : Value → Shared → Prop) (hR : ∀ v s', R v s' → Q (.ret v) s')
    (step : ∀ (Q' : Flow → Shared → Prop) (E' : Value → Shared → Prop) i v oi m1 n1 h1 tk1, (∀ v s', R v s' → Q' (.ret v) s') → i < n → P i v → J i m1 n1 → Fr g L h1 m1 → News g L h1 ((it, oi) :: n1) → (∀ p ∈ n1, p.1 ≠ it) →
      wpAny (model PG w) A (assign target env v) (fun _ s₃ => wpAny (model PG w) A (execs body env) (TurnTo Q' (WalkTurn g L s it oi (J (i + 1)))) E' s₃) E' { s with heap := h1, toks := tk1 })
    (fin : ∀ m' n' h' tk', J n m' n' → Fr g L h' m' → News g L h' n' → Q .next { s with heap := h', toks := tk' }) : ForIt PG w A env target body Q E (.ref it) s := by
  refine ⟨n + 1, WalkAt g L s it n St J, ⟨0, s.heap, s.toks, m, news, oi0, rfl, F, N, ne, hst, h0, Nat.zero_le _, rfl⟩, ?_⟩
  rintro k s' ⟨i, h2, tk2, m2, n2, oi, rfl, F2, N2, ne2, st2, J2, hi, rfl⟩
  have after : ∀ h' : Heap, (∀ b o, b ∉ [it] → h2.get? b = some o → h'.get? b = some o) → Fr g L h' m2 ∧ News g L h' n2 := fun h' hk =>
    ⟨⟨F2.ns.at' fun o e => hk _ _ (fun hm => (N2 _ (.head _)).2.1 (List.mem_singleton.mp hm).symm) e, fun b o e => hk _ _ (fun hm => by rw [List.mem_singleton.mp hm, (N2 _ (.head _)).2.2] at e; cases e) (F2.keep _ _ e), F2.above⟩,
      fun p hp => ⟨hk _ _ (fun hm => ne2 p hp (List.mem_singleton.mp hm)) (N2 p (.tail _ hp)).1, (N2 p (.tail _ hp)).2⟩⟩
  by_cases hlt : i < n
  · refine W.item i _ _ _ hlt st2 fun v h' tk hP hst' hk => ?_
    obtain ⟨F3, N3⟩ := after h' hk
    obtain ⟨oj, hoj⟩ := live _ _ hst'
    have N4 : News g L h' ((it, oj) :: n2) := fun p hp => by
      rcases List.mem_cons.mp hp with rfl | hp
      · exact ⟨hoj, (N2 _ (.head _)).2⟩
      · exact N3 p hp
    refine hgo _ _ _ _ (wpAny_mono (step Q E i v oj m2 n2 h' tk hR hlt hP J2 F3 N4 ne2) (fun _ s₃ h₃ => wpAny_mono h₃ (fun f s₄ h₄ => ?_) fun _ _ e => e) fun _ _ e => e)
    have tr : WalkTurn g L s it oj (J (i + 1)) s₄ → ∃ k, k < n + 1 - i ∧ WalkAt g L s it n St J k s₄ := by
      rintro ⟨h4, tk4, m4, n4, rfl, F4, N5, ne4, J4⟩
      refine ⟨n + 1 - (i + 1), by omega, i + 1, h4, tk4, m4, n4, oj, rfl, F4, N5, ne4, W.frame _ _ _ hst' fun b hb o e => ?_, J4, hlt, rfl⟩
      rcases hJ _ _ _ J2 b hb with rfl | hm
      · rw [hoj] at e; cases e; exact (N5 _ (.head _)).1
      · rw [(N3 _ hm).1] at e; cases e
        rcases hJ _ _ _ J4 b hb with rfl | hm4
        · exact absurd rfl (ne2 _ hm)
        · exact (N5 _ (.tail _ hm4)).1
    cases f with
    | next => exact tr h₄
    | cont => exact tr h₄
    | brk => exact h₄
    | ret v => exact h₄
  · have hin : i = n := by omega
    subst hin
    refine W.done _ _ _ st2 fun h' tk hk => ?_
    obtain ⟨F3, N3⟩ := after h' hk
    exact fin m2 n2 h' tk J2 F3 N3
theorem for_bytesL {b : Array UInt8} {t : Tok} (hh : A.handled = none) {x : Str} {px : Pos} (F : Fr g L s.heap m) (N : News g L s.heap news) (J : Nat → (Str → Option Value) → Prop) (h0 : J 0 m) (R : Value → Shared → Prop) (hR : ∀ v s', R v s' → Q (.ret v) s')
    (step : ∀ (Q' : Flow → Shared → Prop) (E' : Value → Shared → Prop) i c u it oi m1 h1 tk1, (∀ v s', R v s' → Q' (.ret v) s') → b[i]? = some c → J i m1 → Fr g L h1 m1 → News g L h1 ((it, oi) :: news) → (∀ p ∈ news, @LT.lt Nat _ p.1 it) →
      wpAny (model PG w) A (assign (.Name x px) env (.int (c.toNat : Int) u)) (fun _ s₃ => wpAny (model PG w) A (execs body env) (TurnTo Q' (WalkTurn g L s it oi fun m' n' => J (i + 1) m' ∧ n' = news)) E' s₃) E' { s with heap := h1, toks := tk1 })
    (fin : ∀ m' h' tk', J b.size m' → Fr g L h' m' → News g L h' news → Q .next { s with heap := h', toks := tk' }) : wpAny (model PG w) A (pyIter (.bytes b t)) (fun it s₂ => ForIt PG w A env (.Name x px) body Q E it s₂) E s := by
  refine KBw.pyIter_bytes ?_
  have hlt : ∀ p ∈ news, @LT.lt Nat _ p.1 s.heap.objs.size := fun p hp => Heap.lt_size (N p hp).1
  have k : ∀ o : Obj, KeepAll s.heap (s.heap.push o) := fun o b ob e => Heap.get?_push_of_some _ e
  refine for_walksL (s := ⟨_, _, _, _, _⟩) (W := KBw.walks hh s.heap.objs.size b t) (fun i h st => let ⟨o, ho, _⟩ := st; ⟨o, ho⟩) (fun _ => default) (fun _ _ _ _ h => go_name h) (J := fun i m' n' => J i m' ∧ n' = news) (fun i m1 n1 _ b hb => .inl (List.mem_singleton.mp hb)) (F.keeps (k _)) (news := news) (news_more F (news_keepAll N (k _)) (Heap.get?_push_size _ rfl) (fresh_size _)) (fun p hp => Nat.ne_of_lt (hlt p hp)) ⟨_, Heap.get?_push_size _ rfl, rfl, rfl⟩ ⟨h0, rfl⟩ R hR ?_ ?_
  · rintro Q' E' i v oi m1 n1 h1 tk1 hRq hi ⟨c, u, hc, rfl⟩ ⟨hJ, rfl⟩ F1 N1 ne1
    exact step Q' E' i c u _ oi m1 h1 tk1 hRq hc hJ F1 N1 hlt
  · rintro m' n' h' tk' ⟨hJ, rfl⟩ F1 N1
    exact fin m' h' tk' hJ F1 N1
theorem for_listL {l : Addr} {ol : Obj} {vs : List Value} (hh : A.handled = none) {x : Str} {px : Pos} (F : Fr g L s.heap m) (N : News g L s.heap news) (hl : (l, ol) ∈ news) (hls : s.heap.IsList l vs.toArray) (J : Nat → (Str → Option Value) → Prop) (h0 : J 0 m) (R : Value → Shared → Prop) (hR : ∀ v s', R v s' → Q (.ret v) s')
    (step : ∀ (Q' : Flow → Shared → Prop) (E' : Value → Shared → Prop) i v it oi m1 h1 tk1, (∀ v s', R v s' → Q' (.ret v) s') → vs[i]? = some v → J i m1 → Fr g L h1 m1 → News g L h1 ((it, oi) :: news) → (∀ p ∈ news, @LT.lt Nat _ p.1 it) →
      wpAny (model PG w) A (assign (.Name x px) env v) (fun _ s₃ => wpAny (model PG w) A (execs body env) (TurnTo Q' (WalkTurn g L s it oi fun m' n' => J (i + 1) m' ∧ n' = news)) E' s₃) E' { s with heap := h1, toks := tk1 })
    (fin : ∀ m' h' tk', J vs.length m' → Fr g L h' m' → News g L h' news → Q .next { s with heap := h', toks := tk' }) : wpAny (model PG w) A (pyIter (.ref l)) (fun it s₂ => ForIt PG w A env (.Name x px) body Q E it s₂) E s := by
  refine wpAny_pyIter_list hls ?_
  have hlt : ∀ p ∈ news, @LT.lt Nat _ p.1 s.heap.objs.size := fun p hp => Heap.lt_size (N p hp).1
  have k : ∀ o : Obj, KeepAll s.heap (s.heap.push o) := fun o b ob e => Heap.get?_push_of_some _ e
  have hne : l ≠ s.heap.objs.size := Nat.ne_of_lt (hlt _ hl)
  refine for_walksL (s := ⟨_, _, _, _, _⟩) (W := Walks.list hh s.heap.objs.size l hne vs.toArray) (fun i h st => let ⟨⟨o, ho, _⟩, _⟩ := st; ⟨o, ho⟩) (fun _ => ol) (fun _ _ _ _ h => go_name h) (J := fun i m' n' => J i m' ∧ n' = news) (fun i m1 n1 q b hb => ?_) (F.keeps (k _)) (news := news) (news_more F (news_keepAll N (k _)) (Heap.get?_push_size _ rfl) (fresh_size _)) (fun p hp => Nat.ne_of_lt (hlt p hp)) ⟨⟨_, Heap.get?_push_size _ rfl, rfl, rfl⟩, hls.push _⟩ ⟨h0, rfl⟩ R hR ?_ ?_
  · rcases List.mem_cons.mp hb with e | hb
    · exact .inl e
    · rw [List.mem_singleton.mp hb, q.2]; exact .inr hl
  · rintro Q' E' i v oi m1 n1 h1 tk1 hRq hi hv ⟨hJ, rfl⟩ F1 N1 ne1
    exact step Q' E' i v _ oi m1 h1 tk1 hRq (by simpa using hv) hJ F1 N1 hlt
  · rintro m' n' h' tk' ⟨hJ, rfl⟩ F1 N1
    exact fin m' h' tk' (by simpa using hJ) F1 N1
theorem in_c {b : Bts} {c : UInt8} {t u : Tok} {Q : Value → Shared → Prop} (hq : Q (.bool (b.contains c)) s) : wpAny (model PG w) A (compareOp .In (.int (c.toNat : Int) u) (.bytes b.toArray t)) Q E s := by
  refine in_int (Int.natCast_nonneg _) (by have := c.toNat_lt; omega) ?_
  have : ((c.toNat : Int)).toNat.toUInt8 = c := by simp
  rw [this]; exact hq
theorem item_last {b : Bts} {t ui : Tok} {value slice : PySem.Expr} {Q : Value → Shared → Prop} (hz : b.length ≤ 16777216) (hne : b ≠ [])
    (h : ∀ t' k, Q (.int ((b.getLastD 0).toNat : Int) t') { s with toks := k })
    (hs : subscripted slice false (.bytes b.toArray t) (.int (-1) ui) = operate [.int (-1) ui, .bytes b.toArray t] (getItem (.bytes b.toArray t) (.int (-1) ui)) := by with_unfolding_all rfl)
    (ht : ∀ r, letTemporaryGo value (.bytes b.toArray t) r = pure () := by intro _; with_unfolding_all rfl) : wpAny (model PG w) A (subscriptTail value slice (.bytes b.toArray t) (.int (-1) ui)) Q E s := by
  have hl : 0 < b.length := List.length_pos_iff.mpr hne
  have e : b.getD (if (-1 : Int) < 0 then -1 + (b.length : Int) else -1).toNat 0 = b.getLastD 0 := by
    rw [if_pos (by decide), show (-1 + (b.length : Int)).toNat = b.length - 1 from by rw [Int.add_comm]; exact Int.toNat_sub b.length 1, List.getLastD_eq_getLast?, List.getLast?_eq_getElem?, List.getD_eq_getElem?_getD]
  exact item_L hz (by omega) (by omega) (fun t' k => by rw [e]; exact h t' k) hs ht
theorem split_N {x : UInt8} {b : Bts} {t u : Tok} {Q : Value → Shared → Prop} (hb : b.length ≤ 1048576) (F : Fr g L s.heap m) (N : News g L s.heap news)
    (h : ∀ l vs h' tk', BytesAre vs (splitB x b) → Fr g L h' m → News g L h' ((l, lstObj vs) :: news) → (∀ p ∈ news, @LT.lt Nat _ p.1 l) → Q (.ref l) { s with heap := h', toks := tk' }) :
    wpAny (model PG w) A (call (.builtin "bytes.split") [.bytes b.toArray t, .bytes (List.toArray [x]) u]) Q E s := by
  have k : ∀ o : Obj, KeepAll s.heap (s.heap.push o) := fun o b ob e => Heap.get?_push_of_some _ e
  exact call_split hb fun vs tk' hv _ => h _ vs _ tk' hv (F.keeps (k _)) (news_more F (news_keepAll N (k _)) (Heap.get?_push_size _ rfl) (fresh_size _)) fun p hp => Heap.lt_size (N p hp).1
end
end
example : ∀ w A s Q E, TZ w A s Q E → TZ w A s Q E := by intro w A s Q E h; w_top off; first | (walk1; fail) | exact h
section
noncomputable def badB : Bts := [127, 32, 126, 94, 58, 63, 42, 91]
noncomputable def badC (c : UInt8) : Bool := decide (c.toNat < 32) || badB.contains c
noncomputable def compOk (p : Bts) : Bool := !p.isEmpty && !([46].isPrefixOf p) && !([46, 108, 111, 99, 107].isSuffixOf p)
noncomputable def fmtB (b : Bts) : Bool := !(b == [64]) && infixB [47] b && !infixB [46, 46] b && !b.any badC && !([47, 46] : Bts).contains (b.getLastD 0) && !infixB [64, 123] b && !infixB [92] b && (splitB 47 b).all compOk
theorem any_bad {b : Bts} {i : Nat} {c : UInt8} (h : b[i]? = some c) (hb : badC c = true) : b.any badC = true := List.any_eq_true.mpr ⟨c, List.mem_of_getElem? h, hb⟩
theorem bad_lt {c : UInt8} (h : (c.toNat : Int) < 32) : badC c = true := by
  have : c.toNat < 32 := by omega
  simp [badC, this]
theorem bad_mem {c : UInt8} (h : badB.contains c = true) : badC c = true := by unfold badC; rw [h]; simp
theorem take_bad {b : Bts} {i : Nat} {c : UInt8} (h : b[i]? = some c) (ht : (b.take i).any badC = false) (h1 : ¬ (c.toNat : Int) < 32) (h2 : badB.contains c = false) : (b.take (i + 1)).any badC = false := by
  have e : badC c = false := by
    have : ¬ c.toNat < 32 := by omega
    unfold badC; rw [h2]; simp [this]
  rw [List.take_add_one, h, List.any_append, ht]
  simp [e]
theorem all_no {α : Type} {f : α → Bool} {l : List α} {i : Nat} {p : α} (h : l[i]? = some p) (e : f p = false) : l.all f = false := by
  rw [Bool.eq_false_iff]; intro q
  have := List.all_eq_true.mp q p (List.mem_of_getElem? h)
  rw [e] at this; cases this
theorem all_step {α : Type} {f : α → Bool} {l : List α} {i : Nat} {p : α} (h : l[i]? = some p) (ht : (l.take i).all f = true) (e : f p = true) : (l.take (i + 1)).all f = true := by
  rw [List.take_add_one, h, List.all_append, ht]
  simp [e]
theorem comp_no {p : Bts} (h : p.isEmpty = true ∨ [46].isPrefixOf p = true ∨ [46, 108, 111, 99, 107].isSuffixOf p = true) : compOk p = false := by
  unfold compOk
  rcases h with e | e | e <;> rw [e] <;> simp
theorem comp_yes {p : Bts} (a : p.isEmpty = false) (b : [46].isPrefixOf p = false) (c : [46, 108, 111, 99, 107].isSuffixOf p = false) : compOk p = true := by
  unfold compOk; rw [a, b, c]; rfl
def gF3.siteTag : Unit := ()
open gF3
section
variable {p9 : Program} {lo9 : List Str} {w : World} {A : Around} {s : Shared} {base : Heap} {mg mb : Str → Option Value} {mean : ExcName → Option Value} {Q E : Value → Shared → Prop}
theorem iter_stopF {P : Prop} (h : Stop P) : P := h
example : True := by
  k_with "gF3 exec For Tuple Call cons nil" => (with_unfolding_all refine for_free ?_)
  k_with "gF3 exec For Name Call cons nil" => (with_unfolding_all refine for_free ?_)
  k_with "gF3 call type:enumerate" => (refine iter_stopF ?_)
  k_with "gF3 pyIter ref" => (refine iter_stopF ?_)
  k_with "gF3 compareOp In int bytes" => (refine in_c ?_)
  k_with "gF3 subscriptTail" => ((with_reducible show wpAny _ _ (subscriptTail _ _ (Value.bytes _ _) (Value.int _ _)) _ _ _); (refine item_last (by kby_size) (by with_reducible assumption) ?_); intro _ _)
  trivial
set_option maxHeartbeats 4000000 in
theorem spec_format {b : Bts} {t : Tok} (X : (hd.heap_1 w.params).In base) (T : Top p9 lo9 mean mg mb base) (hb : KeepAll base s.heap) (hroom : A.depth + 6 < recursionLimit) (hun : A.units + 60 < cLine) (hhd : A.handled = none) (hb0 : b.length ≤ 64)
    (h : ∀ h' tk', KeepAll s.heap h' → Q (.bool (fmtB b)) { s with heap := h', toks := tk' }) :
    wpAny (model PG w) A (call (.ref 101) [.bytes b.toArray t]) Q E s := by
  have h9 : ∀ h' tk', KeepAll s.heap h' → fmtB b = false → Q (.bool false) { s with heap := h', toks := tk' } := fun h' tk' k e => by have := h h' tk' k; rwa [e] at this
  refine wpAny_call ?_
  refine' enter_def (binds := [(Str.ofString "refname", Value.bytes b.toArray t)]) (X.keeps hb) (T.keeps hb) ?k6 ?k7 ?k8 ?k9 ?kB ?_ ?c2 ?c3 ?c4 ?c5
  case k6 => k_is
  case k7 => k_is
  case k8 => omega
  case k9 => exact BindsTo.of_eq rfl
  case kB => exact locs rfl
  case c2 => exact rfl
  case c3 => exact rfl
  case c4 => exact rfl
  case c5 => decide
  intro L' h' hL F'
  have N' : News s.heap L' h' [] := News.nil
  have X' := X.keeps hb
  have T' := T.keeps hb
  have hrefl : KeepAll s.heap s.heap := fun _ _ e => e
  clear X T hb
  (try dsimp only)
  (try k_fold)
  k_steps
  · rename (b == [64]) = true => c1
    exact h9 _ _ (Fr.keep (by k_asm)) (by unfold fmtB; rw [c1]; rfl)
  · rename infixB [46, 46] b = true => c1
    exact h9 _ _ (Fr.keep (by k_asm)) (by unfold fmtB; rw [c1]; simp)
  · rename (b == [64]) = false => c1
    rename infixB [47] b = true => c2
    rename infixB [46, 46] b = false => c3
    rename Fr _ _ _ _ => F9
    rename News _ _ _ _ => N9
    have hbne : b ≠ [] := fun e => by rw [e] at c2; revert c2; decide
    show wpAny _ _ (call _ _) _ _ _
    refine for_enum (by k_asm) F9 N9 (J := fun i m1 => ∃ r1 r2 : Option Value, m1 = (fun y => if y = Str.ofString "c" then r1 else if y = Str.ofString "i" then r2 else List.lookup y [(Str.ofString "refname", Value.bytes b.toArray t)].reverse) ∧ (b.take i).any badC = false)
      ?_
      (fun v s' => v = .bool false ∧ b.any badC = true ∧ ∃ h' tk', s' = { s with heap := h', toks := tk' } ∧ KeepAll s.heap h') ?_ ?_ ?_
    · exact ⟨none, none, funext (by intro y9; by_cases c0 : y9 = Str.ofString "c"; (subst c0; with_unfolding_all rfl); by_cases c1 : y9 = Str.ofString "i"; (subst c1; with_unfolding_all rfl); simp only [if_neg c0, if_neg c1]), rfl⟩
    · rintro v s' ⟨rfl, hb9, h', tk', rfl, kk⟩
      exact h9 _ _ kk (by unfold fmtB; rw [hb9]; simp)
    · rintro Q9 E9 i c T t1 u1 e it oe oi m1 h1 tk1 hRq hc ⟨r1, r2, rfl, htk⟩ F1 N1 hT hTL hlt1 hlt2
      have hc9 : b[i]? = some c := by simpa using hc
      refine turnP fun P hP => ?_
      refine unpackN_ F1 N1 hT (by k_asm) rfl rfl fun h2 F2 N2 => ?_
      clear F1 N1 F9 N9 hT
      k_steps
      rw [slice_one hc9]
      refine ord_B ?_
      k_steps
      all_goals (first | (refine hRq _ _ ⟨rfl, any_bad hc9 (by first | exact bad_lt (by k_asm) | exact bad_mem (by k_asm)), _, _, rfl, Fr.keep (by k_asm)⟩; done) | (refine hP _ ⟨_, _, _, rfl, by k_asm, fun p hp => (by k_asm : News _ _ _ _) p hp, ⟨_, _, funext (by intro y9; by_cases c0 : y9 = Str.ofString "c"; (subst c0; with_unfolding_all rfl); by_cases c1 : y9 = Str.ofString "i"; (subst c1; with_unfolding_all rfl); simp only [if_neg c0, if_neg c1]), take_bad hc9 htk (by k_asm) (by k_asm)⟩⟩; done) | trace_state)
    · rintro m' h' tk' ⟨r1, r2, rfl, htk⟩ F2 N2
      rw [show (b.toArray.size) = b.length from by simp, List.take_length] at htk
      clear F9 N9
      k_steps
      · rename _ = true => c4
        exact h9 _ _ (Fr.keep (by k_asm)) (by unfold fmtB; rw [c4]; simp)
      · rename _ = true => c4
        exact h9 _ _ (Fr.keep (by k_asm)) (by unfold fmtB; rw [c4]; simp)
      · rename _ = true => c4
        exact h9 _ _ (Fr.keep (by k_asm)) (by unfold fmtB; rw [c4]; simp)
      · rename infixB [92] b = false => c6
        rename infixB [64, 123] b = false => c5
        rename [47, 46].contains _ = false => c4
        rename Fr _ _ _ _ => F3
        rename News _ _ _ _ => N3
        have hall : ∀ x, (splitB 47 b).all compOk = x → fmtB b = x := fun x e => by unfold fmtB; rw [c1, c2, c3, c4, c5, c6, htk, e]; cases x <;> rfl
        refine split_N (Nat.le_trans hb0 (by decide)) F3 N3 fun l vs h4 tk4 hba F4 N4 hlt4 => ?_
        refine for_listL (s := { s with heap := h4, toks := tk4 }) (by k_asm) F4 N4 (.head _) ⟨_, (N4 _ (.head _)).1, rfl, _, rfl⟩ (J := fun i m1 => ∃ r1 r2 r3 : Option Value, m1 = (fun y => if y = Str.ofString "component" then r3 else if y = Str.ofString "c" then r1 else if y = Str.ofString "i" then r2 else List.lookup y [(Str.ofString "refname", Value.bytes b.toArray t)].reverse) ∧ ((splitB 47 b).take i).all compOk = true) ⟨r1, r2, none, funext (by intro y9; by_cases c0 : y9 = Str.ofString "component"; (subst c0; with_unfolding_all rfl); by_cases c1 : y9 = Str.ofString "c"; (subst c1; with_unfolding_all rfl); by_cases c2 : y9 = Str.ofString "i"; (subst c2; with_unfolding_all rfl); simp only [if_neg c0, if_neg c1, if_neg c2]), rfl⟩
          (fun v s' => v = .bool false ∧ (splitB 47 b).all compOk = false ∧ ∃ h' tk', s' = { s with heap := h', toks := tk' } ∧ KeepAll s.heap h') ?_ ?_ ?_
        · rintro v s' ⟨rfl, hb9, h', tk', rfl, kk⟩
          exact h9 _ _ kk (hall _ hb9)
        · rintro Q9 E9 i v it oi m1 h1 tk1 hRq hv ⟨q1, q2, q3, rfl, hok⟩ F1 N1 hlt1
          obtain ⟨p, tp, hp, rfl⟩ := hba.get hv
          have hp64 : p.length ≤ 16777216 := Nat.le_trans (splitB_size (List.mem_of_getElem? hp)) (Nat.le_trans hb0 (by decide))
          clear F3 F4 N3 N4
          refine turnP fun P hP => ?_
          k_steps
          · exact hRq _ _ ⟨rfl, all_no hp (comp_no (.inl (by k_asm))), _, _, rfl, Fr.keep (by k_asm)⟩
          · exact hRq _ _ ⟨rfl, all_no hp (comp_no (.inr (.inl (by k_asm)))), _, _, rfl, Fr.keep (by k_asm)⟩
          · exact hRq _ _ ⟨rfl, all_no hp (comp_no (.inr (.inr (by k_asm)))), _, _, rfl, Fr.keep (by k_asm)⟩
          · refine hP _ ⟨_, _, _, _, rfl, by k_asm, by k_asm, fun p9 hp9 => ?_, ⟨⟨_, _, _, funext (by intro y9; by_cases c0 : y9 = Str.ofString "component"; (subst c0; with_unfolding_all rfl); by_cases c1 : y9 = Str.ofString "c"; (subst c1; with_unfolding_all rfl); by_cases c2 : y9 = Str.ofString "i"; (subst c2; with_unfolding_all rfl); simp only [if_neg c0, if_neg c1, if_neg c2]), all_step hp hok (comp_yes (by k_asm) (by k_asm) (by k_asm))⟩, rfl⟩⟩
            exact Nat.ne_of_lt (hlt1 p9 hp9)
        · rintro m' h' tk' ⟨q1, q2, q3, rfl, hok⟩ F1 N1
          rw [hba.length, List.take_length] at hok
          k_steps
          have h8 := h _ tk' (Fr.keep F1)
          rw [hall _ hok] at h8
          exact h8
  · rename infixB [47] b = false => c1
    exact h9 _ _ (Fr.keep (by k_asm)) (by unfold fmtB; rw [c1]; simp)
end
end
example : ∀ w A s Q E, TZ w A s Q E → TZ w A s Q E := by intro w A s Q E h; w_top off; first | (walk1; fail) | exact h
section
noncomputable def names9 : List Bts := [[72, 69, 65, 68], [114, 101, 102, 115, 47, 104, 101, 97, 100, 115, 47, 97], [114, 101, 102, 115, 47, 104, 101, 97, 100, 115, 47, 98], [114, 101, 102, 115, 47, 116, 97, 103, 115, 47, 118], [114, 101, 102, 115, 47, 104, 101, 97, 100, 115, 47, 47, 99], [114, 101, 102, 115, 47, 115, 116, 97, 115, 104], [104, 101, 97, 100, 115, 47, 97], [114, 101, 102, 115, 47, 104, 101, 97, 100, 115, 47, 97, 46, 108, 111, 99, 107], [114, 101, 102, 115, 47, 120, 46, 46, 121, 47, 122]]
noncomputable def vals6 : List Bts := [[49, 49, 49, 49, 49, 49, 49, 49, 49, 49, 49, 49, 49, 49, 49, 49, 49, 49, 49, 49, 49, 49, 49, 49, 49, 49, 49, 49, 49, 49, 49, 49, 49, 49, 49, 49, 49, 49, 49, 49], [50, 50, 50, 50, 50, 50, 50, 50, 50, 50, 50, 50, 50, 50, 50, 50, 50, 50, 50, 50, 50, 50, 50, 50, 50, 50, 50, 50, 50, 50, 50, 50, 50, 50, 50, 50, 50, 50, 50, 50], [97, 66, 97, 66, 97, 66, 97, 66, 97, 66, 97, 66, 97, 66, 97, 66, 97, 66, 97, 66, 97, 66, 97, 66, 97, 66, 97, 66, 97, 66, 97, 66, 97, 66, 97, 66, 97, 66, 97, 66, 97, 66, 97, 66, 97, 66, 97, 66, 97, 66, 97, 66, 97, 66, 97, 66, 97, 66, 97, 66, 97, 66, 97, 66], [114, 101, 102, 58, 32, 114, 101, 102, 115, 47, 104, 101, 97, 100, 115, 47, 98], [114, 101, 102, 58, 32, 114, 101, 102, 115, 47, 104, 101, 97, 100, 115, 47, 97], [49, 49, 49, 49, 49, 49, 49, 49, 49, 49, 49, 49, 49, 49, 49, 49, 49, 49, 49, 49, 49, 49, 49, 49, 49, 49, 49, 49, 49, 49, 49, 49, 49, 49, 49, 49, 49, 49, 49]]
noncomputable def badV : Bts := [49, 49, 49, 49, 49, 49, 49, 49, 49, 49, 49, 49, 49, 49, 49, 49, 49, 49, 49, 49, 49, 49, 49, 49, 49, 49, 49, 49, 49, 49, 49, 49, 49, 49, 49, 49, 49, 49, 49]
noncomputable def zeroV : Bts := [48, 48, 48, 48, 48, 48, 48, 48, 48, 48, 48, 48, 48, 48, 48, 48, 48, 48, 48, 48, 48, 48, 48, 48, 48, 48, 48, 48, 48, 48, 48, 48, 48, 48, 48, 48, 48, 48, 48, 48]
noncomputable def olds4 : List (Option Bts) := [none, some [49, 49, 49, 49, 49, 49, 49, 49, 49, 49, 49, 49, 49, 49, 49, 49, 49, 49, 49, 49, 49, 49, 49, 49, 49, 49, 49, 49, 49, 49, 49, 49, 49, 49, 49, 49, 49, 49, 49, 49], some [48, 48, 48, 48, 48, 48, 48, 48, 48, 48, 48, 48, 48, 48, 48, 48, 48, 48, 48, 48, 48, 48, 48, 48, 48, 48, 48, 48, 48, 48, 48, 48, 48, 48, 48, 48, 48, 48, 48, 48], some [114, 101, 102, 58, 32, 114, 101, 102, 115, 47, 104, 101, 97, 100, 115, 47, 98]]
noncomputable def okName (n : Bts) : Bool := (names9.take 6).contains n
theorem bgetD {w : World} {A : Around} {E : Value → Shared → Prop} {s : Shared} {h₀ : Heap} {L d : Addr} {news : List (Addr × Obj)} {o : Obj} {D : DD} {k z : Bts} {t tz : Tok} {Q : Value → Shared → Prop} (N : News h₀ L s.heap news) (hp : (d, o) ∈ news) (hB : BObj w o D) (lo : (d == sysModules) = false)
    (h : ∀ t', Q (.bytes ((getB D k).getD z).toArray t') { s with toks := s.toks + 1 }) : wpAny (model PG w) A (call (.builtin "dict.get") [.ref d, .bytes k.toArray t, .bytes z.toArray tz]) Q E s :=
  bget2 N hp hB lo (fun v t' e => by have := h t'; rw [e] at this; exact this) (fun e => by have := h tz; rw [e] at this; exact this)
theorem bget1R {w : World} {A : Around} {E : Value → Shared → Prop} {s : Shared} {h₀ : Heap} {L d : Addr} {news : List (Addr × Obj)} {o : Obj} {D : DD} {k : Bts} {t : Tok} {Q : Value → Shared → Prop} (N : News h₀ L s.heap news) (hp : (d, o) ∈ news) (hB : BObj w o D) (lo : (d == sysModules) = false)
    (h : ∀ v, ResIs (getB D k) v → Q v { s with toks := s.toks + 1 }) : wpAny (model PG w) A (call (.builtin "dict.get") [.ref d, .bytes k.toArray t]) Q E s :=
  bget1 N hp hB lo (fun v t' e => h _ (by rw [e]; exact ⟨_, rfl⟩)) (fun e => h _ (by rw [e]; rfl))
theorem ne_of_bne {a b : Bts} (h : (a != b) = true) : a ≠ b := by simpa using h
theorem eq_of_bne {a b : Bts} (h : (a != b) = false) : a = b := by simpa using h
theorem old_of {b z : Bts} (h : z = b) : ∀ b', some b = some b' → z = b' := fun b' e => by cases e; exact h
theorem old_none {z : Bts} : ∀ b', (none : Option Bts) = some b' → z = b' := fun b' e => by cases e
noncomputable def AllNe (d : Addr) : List (Addr × Obj) → Prop
  | [] => True
  | p :: r => @Ne Nat p.1 d ∧ AllNe d r
theorem allNe {g h : Heap} {L d : Addr} {m : Str → Option Value} (F : Fr g L h m) : ∀ {news : List (Addr × Obj)}, News g L h news → h.get? d = none → AllNe d news
  | [], _, _ => trivial
  | p :: r, N, n => ⟨(fun q => by have := (N p (.head _)).1; rw [q, n] at this; cases this), allNe F (fun x hx => N x (.tail _ hx)) n⟩
theorem frames_push {h₁ g : Heap} {l : List Env} {env : Env} {L : Addr} {m : Str → Option Value} (F : Fr g L h₁ m) (hfs : FramesOk h₁ l) (hk : env.scope.kind = .function) (hf : env.frame = some L) : FramesOk h₁ (env :: l) := FramesOk.push (h := h₁) hfs hk hf F.ns
theorem refs_at3 {w : World} {base h₁ g : Heap} {fs : List Env} {env : Env} {r dg dx dp L : Addr} {t1 t2 : Tok} {D : DD} {m : Str → Option Value} {news : List (Addr × Obj)} {o : Obj} (sp : ∀ b ∈ frs fs, b ∉ [dg, r, dx]) (F : Fr g L h₁ m) (N : News g L h₁ news) (hf : env.frame = some L) (hbg : KeepAll base g) (m1 : (dg, o) ∈ news) (m2 : (r, instObj 281 dx) ∈ news) (m3 : (dx, refsDict w t1 t2 dg dp) ∈ news) (hB : BObj w o D) (lo : (dg == sysModules) = false) : RefsAt w base (env :: fs) h₁ r dg D := refs_at F N hbg m1 m2 m3 hB lo (sep_cons N hf m1 m2 m3 sp)
structure ColAt (base h : Heap) : Prop where
  hd : CodeHd base 107 103
  fresh : base.get? 103 = none
  tab : ∃ ps, h.get? 103 = some (tabObj ps) ∧ TriplesOk ps.toList
theorem ColAt.keep {base h h' : Heap} (C : ColAt base h) (k : KeepAll h h') : ColAt base h' := ⟨C.hd, C.fresh, let ⟨ps, a, b⟩ := C.tab; ⟨ps, k _ _ a, b⟩⟩
theorem ColAt.at {base h h' : Heap} {ps : Array Value} (C : ColAt base h) (e : h'.get? 103 = some (tabObj ps)) (t : TriplesOk ps.toList) : ColAt base h' := ⟨C.hd, C.fresh, ps, e, t⟩
theorem ColAt.lt {base h g : Heap} (C : ColAt base h) (k : KeepAll base g) : @LT.lt Nat _ 103 g.objs.size := by
  obtain ⟨o, vs, file, tf, flags, tg, inF, text, tt, e, r⟩ := C.hd
  exact Nat.lt_trans (by decide : 103 < 107) (Heap.lt_size (k _ _ e))
theorem ColAt.off {base h g : Heap} {L : Addr} {news : List (Addr × Obj)} (C : ColAt base h) (N : News g L h news) (hc : ∀ p ∈ news, p.2.cls ≠ .none) : ∀ p ∈ news, p.1 ≠ 103 := fun p hp q => by
  obtain ⟨ps, e, _⟩ := C.tab
  have := (N p hp).1
  rw [q, e] at this
  exact hc p hp (by rw [← Option.some.inj this])
theorem offAll {d : Addr} : ∀ {news : List (Addr × Obj)}, (∀ p ∈ news, p.1 ≠ d) → AllNe d news
  | [], _ => trivial
  | p :: r, h => ⟨h p (.head _), offAll fun q hq => h q (.tail _ hq)⟩
theorem base_col {base g h : Heap} (C : ColAt base h) (k : KeepAll base g) : KeepAll base (hideAll g [103]) := fun b o e => hideAll_get _ (k _ _ e) fun hm => by rw [List.mem_singleton.mp hm, C.fresh] at e; cases e
theorem fr_col {base g h h' h₀ : Heap} {L : Addr} {m : Str → Option Value} (F : Fr g L h m) (hbg : KeepAll base g) (C : ColAt base h₀) (k : Keep [103] h h') : Fr (hideAll g [103]) L h' m := by
  have hL : L ≠ 103 := fun q => absurd (Nat.lt_of_lt_of_le (C.lt hbg) F.above) (by rw [q]; exact Nat.lt_irrefl _)
  refine ⟨F.ns.at' fun o e => k _ _ (fun hm => hL (List.mem_singleton.mp hm)) e, fun b o e => ?_, by rw [hideAll_size]; exact F.above⟩
  refine k _ _ (fun hm => ?_) (F.keep _ _ (of_hideAll _ e))
  rw [hideAll_none _ hm] at e; cases e
theorem news_col {base g h h' h₀ : Heap} {L : Addr} {m : Str → Option Value} {news : List (Addr × Obj)} {ps : Array Value} (F : Fr g L h m) (N : News g L h news) (hbg : KeepAll base g) (C : ColAt base h₀) (k : Keep [103] h h') (ne : ∀ p ∈ news, p.1 ≠ 103) (e : h'.get? 103 = some (tabObj ps)) : News (hideAll g [103]) L h' ((103, tabObj ps) :: news) := fun p hp => by
  have hL : (103 : Addr) ≠ L := fun q => absurd (Nat.lt_of_lt_of_le (C.lt hbg) F.above) (by rw [← q]; exact Nat.lt_irrefl _)
  rcases List.mem_cons.mp hp with rfl | hp
  · exact ⟨e, hL, hideAll_none _ (.head _)⟩
  · obtain ⟨a, b, c⟩ := N p hp
    refine ⟨k _ _ (fun hm => ne p hp (List.mem_singleton.mp hm)) a, b, ?_⟩
    cases q : (hideAll g [103]).get? p.1 with
    | none => rfl
    | some o => rw [of_hideAll _ q] at c; cases c
theorem all_nil {P : Addr × Obj → Prop} : ∀ p ∈ ([] : List (Addr × Obj)), P p := fun _ h => nomatch h
theorem all_cons {P : Addr × Obj → Prop} {x : Addr × Obj} {l : List (Addr × Obj)} (a : P x) (r : ∀ p ∈ l, P p) : ∀ p ∈ x :: l, P p := fun p hp => by
  rcases List.mem_cons.mp hp with rfl | hp
  · exact a
  · exact r p hp
theorem bobj_cls {w : World} {o : Obj} {D : DD} (h : BObj w o D) : o.cls ≠ .none := by
  obtain ⟨kvs, ⟨es, ep, he, hd, hk, hp, hn⟩, _⟩ := h
  rw [he.1]; exact fun q => by cases q
section
variable {A : Around} {M : Model} {E : Value → Shared → Prop} {s : Shared}
end
end
example : ∀ w A s Q E, TZ w A s Q E → TZ w A s Q E := by intro w A s Q E h; w_top off; first | (walk1; fail) | exact h
section
theorem keep_refl {h : Heap} : KeepAll h h := fun _ _ e => e
section
variable {w : World} {A : Around} {E : Value → Shared → Prop} {s : Shared} {p9 : Program} {lo9 : List Str} {mg mb : Str → Option Value} {mean : ExcName → Option Value}
inductive GenSrc (w : World) (A : Around) (g : Heap) (L : Addr) (m : Str → Option Value) (bs : List Bts) (Q : Value → Shared → Prop) (xv : Value) (s₁ : Shared) : Prop
  | mk (l : Addr) (vs : List Value) (ps : Array Value) (e : xv = .ref l) (F : Fr g L s₁.heap m) (N : News g L s₁.heap [(l, lstObj vs), (103, tabObj ps)]) (t : TriplesOk ps.toList) (G : AllBare s₁.gens) (b : BytesAre vs bs)
      (q : ∀ a s₅ ps', Gen PG w A L a (passing (fun i => !(bs.getD i []).isEmpty) bs.length 0).length (fun j y => ∃ i, (passing (fun i => !(bs.getD i []).isEmpty) bs.length 0)[j]? = some i ∧ vs[i]? = some y) s₅ → Fr g L s₅.heap m → s₅.heap.get? 103 = some (tabObj ps') → TriplesOk ps'.toList → AllBare s₅.gens → s₅.os = s₁.os → s₅.drawn = s₁.drawn → Q (.ref a) s₅)
theorem genexp_B {env : Env} {iter : PySem.Expr} {x : Str} {px pe pi pos : Pos} {scope : Scope} {bs : List Bts} {g : Heap} {L : Addr} {m : Str → Option Value} {Q : Value → Shared → Prop}
    (_F0 : Fr g L s.heap m) (T : Top p9 lo9 mean mg mb g) (hcode : env.code = .ref 107) (hglob : env.globals = mainGlobals) (hh : A.handled = none) (hclos : closureFor scope env = pure []) (hcell : ∀ y ∈ scope.names, y.2 ≠ .cell) (h0 : scope.names.lookup (".0" : Str) = some NameKind.local)
    (hx : scope.names.lookup x = some .local) (hkind : scope.kind = .function) (hco : scope.isCoroutine = false) (hroom : A.depth < recursionLimit) (hcd : CodeHd g 107 103) (hxd : (x == ("__debug__" : Str)) = false) (hz : ∀ b ∈ bs, b.length ≤ 64)
    (h : wpAny (model PG w) A (eval iter env) (GenSrc w A g L m bs Q) E s)
    (hs : ∀ x, genFold iter env x = pure x) :
    wpAny (model PG w) A (eval (.GeneratorExp (.Name x pe) [⟨.Name x px, iter, [.Name x pi], 0⟩] scope pos) env) Q E s := by
  refine wpAny_GeneratorExp_walksQ hh hco hclos hcell h0 hx hkind hroom (wpAny_mono h (fun xv s₁ h₁' => ?_) fun _ _ e => e) hs
  obtain ⟨l, vs, ps, rfl, F1, N1, htr, G1, hba, hQ⟩ := h₁'
  obtain ⟨e1, hlL, hlg⟩ := N1 _ (.head _)
  obtain ⟨e3, h3L, h3g⟩ := N1 _ (.tail _ (.head _))
  have hls : s₁.heap.IsList l vs.toArray := ⟨_, e1, rfl, _, rfl⟩
  have hl3 : l ≠ 103 := fun q => by rw [q, e3] at e1; cases e1
  refine wpAny_pyIter_list hls ?_
  have hpush : KeepAll s₁.heap (s₁.heap.push { cls := .type "list_iterator", data := .fields #[.ref l, .int 0 0] }) := fun b o e => Heap.get?_push_of_some _ e
  have F2 := F1.keeps hpush
  have T2 : Top p9 lo9 mean mg mb (s₁.heap.push { cls := .type "list_iterator", data := .fields #[.ref l, .int 0 0] }) := T.keeps F2.keep
  have hnl := T2.nolimit
  refine ⟨hnl, ?_⟩
  have e3' := hpush _ _ e3
  have hcd2 : CodeHd (s₁.heap.push { cls := .type "list_iterator", data := .fields #[.ref l, .int 0 0] }) 107 103 := hcd.keeps F2.keep
  -- the code of the generator: there already, or made
  have rest : ∀ (code : Value) (h₃ : Heap) (tk₃ : Nat) (ps' : Array Value), Heap.ExtBut 103 (s₁.heap.push { cls := .type "list_iterator", data := .fields #[.ref l, .int 0 0] }) h₃ → s₁.heap.objs.size < h₃.objs.size → h₃.get? 103 = some (tabObj ps') → TriplesOk ps'.toList →
      wpAny (model PG w) A (builtinsFor env.globals env.builtins) (fun bi s₄ =>
        ∃ I fp wr n₀ P St₀ pz F, Value.ref s₁.heap.objs.size = .ref I ∧ (∀ A' : Around, A'.handled = none → Walks PG w A' I fp wr n₀ P St₀) ∧ St₀ 0 s₄.heap ∧ (∀ b ∈ fp, b < s₄.heap.objs.size) ∧ s₄.heap.NoLimit ∧ cStatics ∉ wr ∧
          (∀ href : Heap, (∀ b o, s₄.heap.get? b = some o → href.get? b = some o) →
            QuietGen PG w (genEnv scope [] s₄.heap.objs.size code bi env) x [.Name x pi] (.Name x pe) (List.range s₄.heap.objs.size) wr P pz F href) ∧
          (∀ a h₅ tk gs, gs.bare = true → s₄.heap.objs.size < a → h₅.objs.size = a + 1 → (∀ b o, s₄.heap.get? b = some o → h₅.get? b = some o) →
            WalksS PG w A.in4 a (a :: s₄.heap.objs.size :: List.range s₄.heap.objs.size) (s₄.heap.objs.size :: wr) (GenOnlyQ s₄.gens.size) (passing pz n₀ 0).length
              (fun j y => ∃ i, (passing pz n₀ 0)[j]? = some i ∧ F i y) (GenAt PG w A.in4 a s₄.gens.size s₄.heap.objs.size (List.range s₄.heap.objs.size) wr pz n₀ F) →
            GenAt PG w A.in4 a s₄.gens.size s₄.heap.objs.size (List.range s₄.heap.objs.size) wr pz n₀ F 0 { s₄ with gens := s₄.gens.push gs, toks := tk, heap := h₅ } →
            Q (.ref a) { s₄ with gens := s₄.gens.push gs, toks := tk, heap := h₅ })) E { s₁ with heap := h₃, toks := tk₃ } := by
    intro code h₃ tk₃ ps' hx3 hsz3 et3 htr3
    have keepg : KeepAll g h₃ := fun b o e => hx3 _ _ (fun q => by rw [q, h3g] at e; cases e) (F2.keep _ _ e)
    have F3 : Fr g L h₃ m := ⟨F2.ns.at' fun o e => hx3 _ _ (fun q => h3L q.symm) e, keepg, F2.above⟩
    have T3 : Top p9 lo9 mean mg mb h₃ := T.keeps keepg
    obtain ⟨bm, ob, M⟩ := bmod_of_top T3
    rw [hglob]
    refine wpAny_builtinsFor M.ns M.name M.ne M.obj M.cls M.dict M.data ?_
    have hItL : L < s₁.heap.objs.size := F1.ns.lt
    have hcs : cStatics ∉ [s₁.heap.objs.size] := fun hm => by
      have h1 : cStatics = s₁.heap.objs.size := List.mem_singleton.mp hm
      have hL1 : L ≤ 1 := by rw [← h1] at hItL; exact Nat.le_of_lt_succ hItL
      obtain ⟨bm, ob, M0⟩ := bmod_of_top T
      exact M0.ne (Nat.lt_one_iff.mp (Nat.lt_of_lt_of_le (Heap.lt_size M0.obj) (Nat.le_trans F1.above hL1)))
    have hll : l < s₁.heap.objs.size := Heap.lt_size e1
    have hn9 : vs.toArray.size = bs.length := by rw [List.size_toArray, hba.length]
    refine ⟨s₁.heap.objs.size, [s₁.heap.objs.size, l], [s₁.heap.objs.size], bs.length, fun i v => vs.toArray[i]? = some v, fun i h => h.IsListIter s₁.heap.objs.size l i ∧ h.IsList l vs.toArray, fun i => !(bs.getD i []).isEmpty, fun i y => vs[i]? = some y, rfl, fun A' hA' => hn9 ▸ Walks.list hA' s₁.heap.objs.size l (Nat.ne_of_lt hll) vs.toArray, ?_, ?_, T3.nolimit, hcs, ?_, ?_⟩
    · have e4 := hx3 _ _ (Nat.ne_of_gt (Heap.lt_size e3)) (Heap.get?_push_size s₁.heap (o := { cls := .type "list_iterator", data := .fields #[.ref l, .int 0 0] }) rfl)
      exact ⟨⟨_, e4, rfl, rfl⟩, ⟨_, hx3 _ _ hl3 (hpush _ _ e1), rfl, _, rfl⟩⟩
    · intro b hb
      rcases List.mem_cons.mp hb with rfl | hb
      · exact hsz3
      · rw [List.mem_singleton.mp hb]; exact Nat.lt_trans hll hsz3
    · intro href hk
      refine ⟨fun A' E' i v s₂ m₂ hA' hv hn hm hkp => ?_, fun A' E' i v s₂ m₂ hA' hv hp hn hm hkp => ?_⟩
      · obtain ⟨b, tb, hb, rfl⟩ := hba.get (by simpa using hv : vs[i]? = some v)
        rw [List.forIn_cons, if_pos rfl]
        refine wpAny_bind (wpAny_bind (wpAny_isTrue_value (wpAny_Name (wpAny_loadName_local hkind hx hn hm ?_) hxd)))
        refine truthy_L (Nat.le_trans (hz b (List.mem_of_getElem? hb)) (by decide)) fun k => ?_
        refine wpAny_pure ?_
        dsimp only
        rw [List.forIn_nil]
        refine wpAny_pure ⟨?_, _, _, rfl, fun _ _ e => e⟩
        rw [List.getD_eq_getElem?_getD, hb]; rfl
      · exact wpAny_Name (wpAny_loadName_local hkind hx hn hm ⟨by simpa using hv, _, _, rfl, fun _ _ e => e⟩) hxd
    · intro a h₅ tk gs hgb hag hsz5 hk5 W hat
      refine hQ a _ ps' ⟨_, _, _, _, W, hat, (fun i s' st => st.1.typeIs), List.mem_cons_self, ?_, ?_⟩ (F3.keeps hk5) (hk5 _ _ et3) htr3 (G1.push hgb) rfl rfl
      · intro b hb
        show b < h₅.objs.size
        rw [hsz5]
        rcases List.mem_cons.mp hb with rfl | hb
        · exact Nat.lt_succ_self _
        · rcases List.mem_cons.mp hb with rfl | hb
          · exact Nat.lt_succ_of_lt hag
          · exact Nat.lt_succ_of_lt (Nat.lt_trans (List.mem_range.mp hb) hag)
      · intro b hb
        rcases List.mem_cons.mp hb with rfl | hb
        · exact Nat.lt_trans hItL hsz3
        · rw [List.mem_singleton.mp hb]; exact hItL
  have hok := hcd2.code e3' htr
  have hsz0 : s₁.heap.objs.size < (s₁.heap.push { cls := .type "list_iterator", data := .fields #[.ref l, .int 0 0] }).objs.size := by rw [Heap.size_push]; exact Nat.lt_succ_self _
  cases hnf : codeAmong pos ps.toList with
  | none =>
    refine wpAny_genexprCodeX hcode hok (hcd2.tab e3') hnf fun c' h₃ tk₃ hx3 hge hlt hcode3 _ htab3 _ => ?_
    have htr3 : TriplesOk (ps ++ #[rawInt pos.line, rawInt pos.col, .ref c']).toList := by
      obtain ⟨_, _, _, _, _, _, _, _, _, _, _, _, _, _, _, _, _, _, _, q, _⟩ := hcode3; exact q
    exact rest _ h₃ tk₃ _ hx3 (Nat.lt_of_lt_of_le hsz0 (Nat.le_trans hge (Nat.le_of_lt hlt))) htab3.2 htr3
  | some c' =>
    exact wpAny_genexprCode_hit hcode hok hnf (rest c' _ _ ps (Heap.ExtBut.refl _ _) hsz0 e3' htr)
end
def gE5.siteTag : Unit := ()
open gE5
section
variable {p9 : Program} {lo9 : List Str} {w : World} {A : Around} {s : Shared} {base : Heap} {mg mb : Str → Option Value} {mean : ExcName → Option Value} {Q E : Value → Shared → Prop}
example : True := by
  k_with "gE5 eval GeneratorExp" => (refine iter_stopF ?_)
  k_with "gE5 pyIter ref" => (refine iter_stopF ?_)
  trivial
set_option maxHeartbeats 4000000 in
theorem spec_collapse {t : Tok} (X : (hd.heap_1 w.params).In base) (T : Top p9 lo9 mean mg mb base) (hb : KeepAll base s.heap) (hroom : A.depth + 6 < recursionLimit) (hun : A.units + 60 < cLine) (hhd : A.handled = none) (hC : ColAt base s.heap) (hG : AllBare s.gens)
    (h : ∀ t' h' g' tk', Keep [103] s.heap h' → ColAt base h' → AllBare g' → Q (.bytes (List.toArray [104, 101, 97, 100, 115, 47, 99]) t') { s with heap := h', gens := g', toks := tk' }) :
    wpAny (model PG w) A (call (.ref 108) [.bytes (List.toArray [104, 101, 97, 100, 115, 47, 47, 99]) t]) Q E s := by
  refine wpAny_call ?_
  refine' enter_def (binds := [(Str.ofString "refname", Value.bytes (List.toArray [104, 101, 97, 100, 115, 47, 47, 99]) t)]) (X.keeps hb) (T.keeps hb) ?k6 ?k7 ?k8 ?k9 ?kB ?_ ?c2 ?c3 ?c4 ?c5
  case k6 => k_is
  case k7 => k_is
  case k8 => omega
  case k9 => exact BindsTo.of_eq rfl
  case kB => exact locs rfl
  case c2 => exact rfl
  case c3 => exact rfl
  case c4 => exact rfl
  case c5 => decide
  intro L' h' hL F'
  have N0 : News s.heap L' h' [] := News.nil
  obtain ⟨ps, hps, htr⟩ := hC.tab
  have k0 : Keep [103] h' h' := fun _ _ _ e => e
  have hps' := F'.keep _ _ hps
  have N' := news_col F' N0 hb hC k0 (fun _ q => nomatch q) hps'
  have F2 := fr_col F' hb hC k0
  have hb2 := base_col hC hb
  have X' := X.keeps hb2
  have T' := T.keeps hb2
  clear F' N0 k0 hps'
  (try dsimp only)
  (try k_fold)
  k_steps
  have hcd9 : CodeHd (hideAll s.heap [103]) 107 103 := hC.hd.keeps hb2
  refine genexp_B (bs := [[104, 101, 97, 100, 115], [], [99]]) F2 T' rfl rfl (by k_asm) rfl (by decide) rfl rfl rfl rfl (by k_room) hcd9 rfl (by decide) ?_ (fun _ => rfl)
  k_steps
  refine split_N (by decide) F2 N' fun l vs h4 tk4 hba F4 N4 hlt4 => ?_
  refine ⟨l, vs, ps, rfl, F4, N4, htr, hG, hba, fun a s₅ ps' hgen F5 e5 tr5 ag5 os5 dr5 => ?_⟩
  obtain ⟨fp, wr, gk, St, W, hst, hT5, ha5, hfp5, hwr5⟩ := hgen
  have W2 : WalksS PG w _ a fp wr (GenOnlyQ gk) 2 _ St := W
  have hP0 : ∀ v, (∃ i, (passing (fun i => !(([[104, 101, 97, 100, 115], [], [99]] : List Bts).getD i []).isEmpty) 3 0)[0]? = some i ∧ vs[i]? = some v) → ∃ u, v = Value.bytes (List.toArray [104, 101, 97, 100, 115]) u := by
    rintro v ⟨i, hi, hv⟩
    have e : (passing (fun i => !(([[104, 101, 97, 100, 115], [], [99]] : List Bts).getD i []).isEmpty) 3 0)[0]? = some 0 := by decide +kernel
    rw [e] at hi; cases hi
    obtain ⟨p, u, hp, rfl⟩ := hba.get hv
    have ep : p = [104, 101, 97, 100, 115] := (Option.some.inj hp).symm
    exact ⟨u, by rw [ep]⟩
  have hP1 : ∀ v, (∃ i, (passing (fun i => !(([[104, 101, 97, 100, 115], [], [99]] : List Bts).getD i []).isEmpty) 3 0)[1]? = some i ∧ vs[i]? = some v) → ∃ u, v = Value.bytes (List.toArray [99]) u := by
    rintro v ⟨i, hi, hv⟩
    have e : (passing (fun i => !(([[104, 101, 97, 100, 115], [], [99]] : List Bts).getD i []).isEmpty) 3 0)[1]? = some 2 := by decide +kernel
    rw [e] at hi; cases hi
    obtain ⟨p, u, hp, rfl⟩ := hba.get hv
    have ep : p = [99] := (Option.some.inj hp).symm
    exact ⟨u, by rw [ep]⟩
  k_steps
  refine join_gen2 (x := List.toArray [104, 101, 97, 100, 115]) (y := List.toArray [99]) W2 hT5 hst hfp5 ha5 hP0 hP1 (by decide) fun s6 t6 k6 hm => ?_
  have hw6 : ∀ b ∈ s₅.heap.objs.size :: wr, L' < b := fun b hb => by
    rcases List.mem_cons.mp hb with rfl | hb
    · exact F5.ns.lt
    · exact hwr5 b hb
  have F6 := F5.moved hm hw6
  have h3 : 103 < L' := by
    have := Nat.lt_of_lt_of_le (Heap.lt_size (N' _ (.head _)).1) (Nat.le_refl _)
    rw [hL]; exact hC.lt hb
  have e6 := hm.heap 103 _ (fun hx => Nat.lt_irrefl _ (Nat.lt_trans h3 (hw6 _ hx))) e5
  have hd6 : s6.drawn = s.drawn := hm.drawn.trans dr5
  have ho6 : s6.os = s.os := hm.os.trans os5
  have h8 := h t6 s6.heap s6.gens k6 (keep_of_hide F6) ⟨hC.hd, hC.fresh, ps', e6, tr5⟩ (ag5.movedS hm)
  have k8 : ∀ (v : Value) (d : Drawn) (o : OsState), d = s.drawn → o = s.os → Q v { s with heap := s6.heap, gens := s6.gens, toks := k6 } → Q v ⟨s6.heap, s6.gens, d, k6, o⟩ := by rintro v d o rfl rfl q; exact q
  exact k8 _ _ _ hd6 ho6 h8
end
end
example : ∀ w A s Q E, TZ w A s Q E → TZ w A s Q E := by intro w A s Q E h; w_top off; first | (walk1; fail) | exact h
section
open PySem.SeqAt in
section
variable {w : World} {A : Around} {E : Value → Shared → Prop} {s : Shared}
theorem eqAt_bytes2 {a b : Bts} {t u : Tok} : EqAt A s (.bytes a.toArray t) (.bytes b.toArray u) (decide (a = b)) := fun prog w E Q h => eqBool_bytes (by simpa using h)
noncomputable def isB2 (k : Bts) : Value → Bool
  | .bytes i _ => decide (i.toList = k)
  | _ => false
theorem in_tup2 {g : Heap} {L T : Addr} {news : List (Addr × Obj)} {a b k : Bts} {t ta tb : Tok} {n : Nat} {d : Option Addr} {sl : Array (Option Value)} {Q : Value → Shared → Prop} (N : News g L s.heap news) (hm : (T, { cls := .type "tuple", dict := d, data := .seq #[.bytes a.toArray ta, .bytes b.toArray tb] n, slots := sl }) ∈ news) (h : Q (.bool (decide (a = k) || decide (b = k))) s) :
    wpAny (model PG w) A (compareOp .In (.bytes k.toArray t) (.ref T)) Q E s := by
  refine in_tupleAt (isB2 k) ⟨_, (N _ hm).1, rfl, _, rfl⟩ (fun y hy => ?_) ?_
  · have hy' : y = .bytes a.toArray ta ∨ y = .bytes b.toArray tb := by simpa using hy
    rcases hy' with rfl | rfl
    · exact eqAt_bytes2
    · exact eqAt_bytes2
  · have e : Array.any #[Value.bytes a.toArray ta, .bytes b.toArray tb] (isB2 k) = (decide (a = k) || decide (b = k)) := by simp [isB2]
    rw [e]; exact h
end
theorem names9_len : ∀ k ∈ names9, k.length ≤ 64 := by decide +kernel
noncomputable abbrev inTup (k : Bts) : Bool := decide (([72, 69, 65, 68] : Bts) = k) || decide (([114, 101, 102, 115, 47, 115, 116, 97, 115, 104] : Bts) = k)
theorem chk_tup : ∀ {k}, k ∈ names9 → (decide (([72, 69, 65, 68] : Bts) = k) || decide (([114, 101, 102, 115, 47, 115, 116, 97, 115, 104] : Bts) = k)) = true → okName k = true := by
  have : ∀ k ∈ names9, (decide (([72, 69, 65, 68] : Bts) = k) || decide (([114, 101, 102, 115, 47, 115, 116, 97, 115, 104] : Bts) = k)) = true → okName k = true := by decide +kernel
  exact fun {k} a b => this k a b
theorem chk_fmt : ∀ {k}, k ∈ names9 → ([114, 101, 102, 115, 47] : Bts).isPrefixOf k = true → fmtB (sliceB k (some 5) none) = true → okName k = true := by
  have : ∀ k ∈ names9, ([114, 101, 102, 115, 47] : Bts).isPrefixOf k = true → fmtB (sliceB k (some 5) none) = true → okName k = true := by decide +kernel
  exact fun {k} a b => this k a b
theorem chk_col : ∀ {k}, k ∈ names9 → fmtB (sliceB k (some 5) none) = false → infixB [47, 47] k = true → k = [114, 101, 102, 115, 47, 104, 101, 97, 100, 115, 47, 47, 99] := by
  have : ∀ k ∈ names9, fmtB (sliceB k (some 5) none) = false → infixB [47, 47] k = true → k = [114, 101, 102, 115, 47, 104, 101, 97, 100, 115, 47, 47, 99] := by decide +kernel
  exact fun {k} a b => this k a b
theorem chk_no : ∀ {k}, k ∈ names9 → (decide (([72, 69, 65, 68] : Bts) = k) || decide (([114, 101, 102, 115, 47, 115, 116, 97, 115, 104] : Bts) = k)) = false → fmtB (sliceB k (some 5) none) = false → infixB [47, 47] k = false → okName k = false := by
  have : ∀ k ∈ names9, (decide (([72, 69, 65, 68] : Bts) = k) || decide (([114, 101, 102, 115, 47, 115, 116, 97, 115, 104] : Bts) = k)) = false → fmtB (sliceB k (some 5) none) = false → infixB [47, 47] k = false → okName k = false := by decide +kernel
  exact fun {k} a b => this k a b
theorem chk_out : ∀ {k}, k ∈ names9 → (decide (([72, 69, 65, 68] : Bts) = k) || decide (([114, 101, 102, 115, 47, 115, 116, 97, 115, 104] : Bts) = k)) = false → ([114, 101, 102, 115, 47] : Bts).isPrefixOf k = false → okName k = false := by
  have : ∀ k ∈ names9, (decide (([72, 69, 65, 68] : Bts) = k) || decide (([114, 101, 102, 115, 47, 115, 116, 97, 115, 104] : Bts) = k)) = false → ([114, 101, 102, 115, 47] : Bts).isPrefixOf k = false → okName k = false := by decide +kernel
  exact fun {k} a b => this k a b
theorem col_fmt : fmtB [104, 101, 97, 100, 115, 47, 99] = true := by decide +kernel
theorem col_slice : sliceB [114, 101, 102, 115, 47, 104, 101, 97, 100, 115, 47, 47, 99] (some 5) none = [104, 101, 97, 100, 115, 47, 47, 99] := by decide +kernel
theorem Keep.of {hs : List Addr} {h h' : Heap} (k : KeepAll h h') : Keep hs h h' := fun b o _ e => k b o e
def gE6.siteTag : Unit := ()
open gE6
section
variable {p9 : Program} {lo9 : List Str} {w : World} {A : Around} {s : Shared} {base : Heap} {mg mb : Str → Option Value} {mean : ExcName → Option Value} {Q E : Value → Shared → Prop}
example : True := by
  k_with "gE6 call ref" => (k_here; (try dsimp only [List.nil_append, List.cons_append, List.append_nil]); (with_reducible show wpAny _ _ (call (Value.ref 67) _) _ _ _); k_dflt (refine' spec_Ref ?sX ?sT ?sb ?sr ?su ?sh ?_; (case sb => exact keep_base (by k_asm) (by k_asm)); (case sX => k_asm); (case sT => k_asm); (case sr => k_room); (case su => k_units); (case sh => k_asm)); (all_goals first | ((with_reducible intro h' tk' kk'); (have F' := fr_keepAll (by k_asm) kk'); (have N' := news_keepAll (by k_asm) kk'); (try k_sweep))))
  k_with "gE6 call ref" => (k_here; (try dsimp only [List.nil_append, List.cons_append, List.append_nil]); (with_reducible show wpAny _ _ (call (Value.ref 101) _) _ _ _); k_dflt (refine' spec_format ?sX ?sT ?sb ?sr ?su ?sh ?s6 ?_; (case sb => exact keep_base (by k_asm) (by k_asm)); (case sX => k_asm); (case sT => k_asm); (case sr => k_room); (case su => k_units); (case sh => k_asm); (case s6 => (first | assumption | decide | exact Nat.le_trans (sliceB_le _ _ _) (by with_reducible assumption)))); (all_goals first | ((with_reducible intro h' tk' kk'); (have F' := fr_keepAll (by k_asm) kk'); (have N' := news_keepAll (by k_asm) kk'); (try k_sweep))))
  k_with "gE6 compareOp In bytes ref" => (k_here; k_dflt (refine' in_tup2 (by k_asm) (by k_mem) ?_))
  trivial
set_option maxHeartbeats 4000000 in
theorem spec_chkn {r : Addr} {k : Bts} {t : Tok} {fs : List Env} (X : (hd.heap_1 w.params).In base) (T : Top p9 lo9 mean mg mb base) (hb : KeepAll base s.heap) (hroom : A.depth + 8 < recursionLimit) (hun : A.units + 80 < cLine) (hhd : A.handled = none) (hA : A.frames = some fs) (hfs : FramesOk s.heap fs) (hk : k ∈ names9) (hC : ColAt base s.heap) (hG : AllBare s.gens)
    (h : okName k = true → ∀ h' g' d' tk', Keep [103] s.heap h' → ColAt base h' → AllBare g' → Q .none { s with heap := h', gens := g', drawn := d', toks := tk' })
    (hE : okName k = false → ∀ h' tk' e, RaisedH s.heap fs e (.ref 31) h' → E (.ref e) { s with heap := h', toks := tk' }) :
    wpAny (model PG w) A (call (.ref 145) [.ref r, .bytes k.toArray t]) Q E s := by
  have hk64 : k.length ≤ 64 := names9_len k hk
  refine wpAny_call ?_
  refine' enter_def (binds := [(Str.ofString "self", Value.ref r), (Str.ofString "name", Value.bytes k.toArray t)]) (X.keeps hb) (T.keeps hb) ?k6 ?k7 ?k8 ?k9 ?kB ?_ ?c2 ?c3 ?c4 ?c5
  case k6 => k_is
  case k7 => k_is
  case k8 => omega
  case k9 => exact BindsTo.of_eq rfl
  case kB => exact locs rfl
  case c2 => exact rfl
  case c3 => exact rfl
  case c4 => exact rfl
  case c5 => decide
  intro L' h' hL F'
  have pk := And.intro X (And.intro T hb)
  have N' : News s.heap L' h' [] := News.nil
  have X' := X.keeps hb
  have T' := T.keeps hb
  have hrefl : KeepAll s.heap s.heap := fun _ _ e => e
  clear X T hb
  (try dsimp only)
  (try k_fold)
  k_steps
  · exact h (chk_tup hk (by k_asm)) _ _ _ _ (Keep.of (Fr.keep (by k_asm))) (hC.keep (Fr.keep (by k_asm))) hG
  · exact h (chk_fmt hk (by k_asm) (by k_asm)) _ _ _ _ (Keep.of (Fr.keep (by k_asm))) (hC.keep (Fr.keep (by k_asm))) hG
  · have ek := chk_col hk (by k_asm) (by k_asm)
    rename Fr _ _ _ _ => F9
    rename News _ _ _ _ => N9
    obtain ⟨X0, T0, hb0⟩ := pk
    have hb9 : KeepAll base _ := fun b o e => Fr.keep F9 _ _ (hb0 b o e)
    have C9 := hC.keep (Fr.keep F9)
    subst ek
    rw [col_slice]
    refine spec_collapse X0 T0 hb9 (by k_room) (by k_units) (by k_asm) C9 hG fun t6 h6 g6 tk6 kk6 cc6 ag6 => ?_
    have F6 := fr_col F9 hb0 cc6 kk6
    obtain ⟨ps6, e6, tr6⟩ := id cc6.tab
    have N6 := news_col F9 News.nil hb0 cc6 kk6 (fun _ q => nomatch q) e6
    have hb6 := base_col cc6 hb0
    have X6 := X0.keeps hb6
    have T6 := T0.keeps hb6
    have hrefl6 : KeepAll (hideAll s.heap [103]) (hideAll s.heap [103]) := fun _ _ e => e
    clear X0 T0 X' T' hb9 C9 F9 N9 hrefl hb6
    k_steps
    · exact h rfl _ _ _ _ (keep_of_hide (by k_asm)) (cc6.at (News.get (by k_asm) (by k_mem)) tr6) ag6
  · exact leave_made (by k_asm) (by k_asm) hA hfs (Fr.keep (by k_asm)) (hL ▸ fresh_size _) rfl rfl fun _ R => hE (chk_no hk (by k_asm) (by k_asm) (by k_asm)) _ _ _ R
  · exact leave_made (by k_asm) (by k_asm) hA hfs (Fr.keep (by k_asm)) (hL ▸ fresh_size _) rfl rfl fun _ R => hE (chk_out hk (by k_asm) (by k_asm)) _ _ _ R
end
end
example : ∀ w A s Q E, TZ w A s Q E → TZ w A s Q E := by intro w A s Q E h; w_top off; first | (walk1; fail) | exact h
section
section
variable {p9 : Program} {lo9 : List Str} {w : World} {A : Around} {s : Shared} {base : Heap} {mg mb : Str → Option Value} {mean : ExcName → Option Value} {Q E : Value → Shared → Prop}
theorem spec_follow2 {k : Bts} {t : Tok} {fs : List Env} {r dg : Addr} {D : DD} (X : (hd.heap_1 w.params).In base) (T : Top p9 lo9 mean mg mb base) (hb : KeepAll base s.heap) (hroom : A.depth + 6 < recursionLimit) (hun : A.units + 60 < cLine) (hhd : A.handled = none) (hR : RefsAt w base fs s.heap r dg D) (hV : ValsOk D) (hkl : k.length ≤ 64) (hA : A.frames = some fs) (hfs : FramesOk s.heap fs)
    (h : ∀ T l b tb vs ps cnt h' tk', followD D 6 k = some (ps, some b) → BytesAre vs ps → KeepAll s.heap h' → h'.get? T = some { cls := .type "tuple", data := .seq #[.ref l, .bytes b.toArray tb] } → h'.get? l = some (W.listOf vs.toArray cnt) →
      s.heap.get? T = none → s.heap.get? l = none → Q (.ref T) { s with heap := h', toks := tk' })
    (hn : ∀ T l vs ps cnt h' tk', followD D 6 k = some (ps, none) → BytesAre vs ps → KeepAll s.heap h' → h'.get? T = some { cls := .type "tuple", data := .seq #[.ref l, .none] } → h'.get? l = some (W.listOf vs.toArray cnt) →
      s.heap.get? T = none → s.heap.get? l = none → Q (.ref T) { s with heap := h', toks := tk' })
    (hE : followD D 6 k = none → ∀ h' tk' e, RaisedH s.heap fs e (.ref 84) h' → E (.ref e) { s with heap := h', toks := tk' }) :
    wpAny (model PG w) A (call (.ref 166) [.ref r, .bytes k.toArray t]) Q E s :=
  spec_follow X T hb hroom hun hhd hR hV hkl hA hfs (fun T l v vs ps res cnt h' tk' hf hr hb' kk eT eL nT nL => by
    cases res with
    | none => cases hr; exact hn T l vs ps cnt h' tk' hf hb' kk eT eL nT nL
    | some b => obtain ⟨tb, rfl⟩ := hr; exact h T l b tb vs ps cnt h' tk' hf hb' kk eT eL nT nL) hE
theorem bad_eq : badV = badVr := by decide
theorem hex_all {v : Bts} (h : v.all (fun x => decide (HexN (x.toNat : Int))) = true) : ∀ i : Nat, i < v.length → HexN ((v.getD i 0).toNat : Int) := fun i hi => by
  have e : v.getD i 0 = v[i] := by simp [hi]
  rw [e]
  exact of_decide_eq_true (List.all_eq_true.mp h _ (List.getElem_mem hi))
theorem vals_two : ∀ v ∈ vals6, v ≠ badV → (v.length ≤ 64 ∧ (∀ i : Nat, i < v.length → HexN ((v.getD i 0).toNat : Int)) ∧ (v.length = 40 ∨ v.length = 64)) ∨ (v.length < 40 ∧ rp.isPrefixOf v = true) := by
  have key : ∀ v ∈ vals6, v ≠ badV → (v.length ≤ 64 ∧ v.all (fun x => decide (HexN (x.toNat : Int))) = true ∧ (v.length = 40 ∨ v.length = 64)) ∨ (v.length < 40 ∧ rp.isPrefixOf v = true) := by decide +kernel
  intro v hv e
  rcases key v hv e with ⟨a, b, c⟩ | x
  · exact .inl ⟨a, hex_all b, c⟩
  · exact .inr x
theorem spec_chkv {r : Addr} {v : Bts} {t : Tok} {fs : List Env} (X : (hd.heap_1 w.params).In base) (T : Top p9 lo9 mean mg mb base) (hb : KeepAll base s.heap) (hroom : A.depth + 8 < recursionLimit) (hun : A.units + 80 < cLine) (hhd : A.handled = none) (hA : A.frames = some fs) (hfs : FramesOk s.heap fs) (hv : v ∈ vals6)
    (h : v ≠ badV → ∀ h' tk', KeepAll s.heap h' → Q .none { s with heap := h', toks := tk' })
    (hE : v = badV → ∀ h' tk' e, RaisedH s.heap fs e (.type "ValueError") h' → E (.ref e) { s with heap := h', toks := tk' }) :
    wpAny (model PG w) A (call (.ref 152) [.ref r, .bytes v.toArray t]) Q E s := by
  by_cases e : v = badV
  · exact spec_chkv3 X T hb (by omega) (by omega) hhd hA hfs (by rw [e]; decide) (by rw [e]; decide) (e.trans bad_eq) (hE e)
  · have key : (v.length ≤ 64 ∧ (∀ i : Nat, i < v.length → HexN ((v.getD i 0).toNat : Int)) ∧ (v.length = 40 ∨ v.length = 64)) ∨ (v.length < 40 ∧ rp.isPrefixOf v = true) := vals_two v hv e
    rcases key with ⟨k1, k2, k3⟩ | ⟨k1, k2⟩
    · exact spec_chkv1 X T hb (by omega) (by omega) hhd k1 k2 k3 (h e)
    · exact spec_chkv2 X T hb (by omega) (by omega) hhd k1 k2 (h e)
end
end
example : ∀ w A s Q E, TZ w A s Q E → TZ w A s Q E := by intro w A s Q E h; w_top off; first | (walk1; fail) | exact h
section
section
variable {M : Model} {w : World} {A : Around} {E : Value → Shared → Prop} {s : Shared} {h₁ g : Heap} {fs : List Env} {env : Env} {L e : Addr} {cls : Value} {m : Str → Option Value} {K : Unit → Shared → Prop} {news : List (Addr × Obj)}
theorem RaisedH.fr {h : Heap} (R : RaisedH h₁ (env :: fs) e cls h) (F : Fr g L h₁ m) (hf : env.frame = some L) (hgf : ∀ b ∈ frs fs, g.get? b = none) : Fr g L h m := by
  obtain ⟨a0, hfl, hup⟩ := R
  refine F.of_stays (fun b o q => hfl.1 b o (hideAll_get _ (F.keep _ _ q) fun hm => ?_)) hup
  obtain ⟨e', he', h2⟩ := List.mem_filterMap.mp hm
  rcases List.mem_cons.mp he' with rfl | he'
  · rw [hf] at h2; cases h2; rw [Heap.get?_none_of_le F.above] at q; cases q
  · rw [hgf _ (List.mem_filterMap.mpr ⟨e', he', h2⟩)] at q; cases q
theorem RaisedH.newsK {h : Heap} (R : RaisedH h₁ (env :: fs) e cls h) (N : News g L h₁ news) (hf : env.frame = some L) (hn : ∀ p ∈ news, p.1 ∉ frs fs) : News g L h news := fun p hp => by
  obtain ⟨n1, n2, n3⟩ := N p hp
  refine ⟨R.keepF.1 _ _ (fun hm => ?_) n1, n2, n3⟩
  obtain ⟨e', he', h2⟩ := List.mem_filterMap.mp hm
  rcases List.mem_cons.mp he' with rfl | he'
  · rw [hf] at h2; cases h2; exact n2 rfl
  · exact hn p hp (List.mem_filterMap.mpr ⟨e', he', h2⟩)
theorem looks_new {oe : Obj} {vs : Array Value} {a0 : Value} (hA : A.frames = some (env :: fs)) (hfs : FramesOk h₁ (env :: fs)) (hf : env.frame = some L)
    (he : s.heap.get? e = some oe) (hen : h₁.get? e = none) (k : KeepAll h₁ s.heap) (hc : oe.cls = cls) (hd : oe.data = .fields vs) (h1 : vs[1]? = some .none) (h0 : vs[0]? = some a0)
    (hK : ∀ h', RaisedH h₁ (env :: fs) e cls h' → K () { s with heap := h' }) :
    wpAny M A (noteFrame (.ref e) env) (fun _ s₂ => wpAny M A (setFlight (.ref e) none) K E s₂) E s := by
  have hB : (hideAll h₁ (frs (env :: fs))).get? e = none := by
    cases q : (hideAll h₁ (frs (env :: fs))).get? e with
    | none => rfl
    | some o => rw [of_hideAll _ q] at hen; cases hen
  have hfun : s.heap.FunFrames (hideAll h₁ (frs (env :: fs))) (env :: fs) := (hfs.keep k).fun fun b hb => hideAll_none _ hb
  unfold noteFrame
  simp only [hf]
  refine wpAny_bind (wpAny_field he hd h1 ?_)
  rw [if_neg (by decide)]
  refine wpAny_entryW hA hfun hf he (fun b o q => k b o (of_hideAll _ q)) hB hd (Array.getElem?_eq_some_iff.mp h1).1 h0 fun h' hN => ?_
  obtain ⟨k1, k2, k3, k4⟩ := hN
  refine wpAny_landsW (L := L) ⟨k1, hB, k2, hc ▸ k3⟩ fun h₂ x1 x2 => hK h₂ ⟨a0, x1, ((Heap.UpToSlots.of_keeps k).trans k4).trans x2⟩
theorem looks_on (hA : A.frames = some (env :: fs)) (hf : env.frame = some L) (R : RaisedH h₁ (env :: fs) e cls s.heap) (hK : ∀ h', RaisedH h₁ (env :: fs) e cls h' → K () { s with heap := h' }) :
    wpAny M A (noteFrame (.ref e) env) (fun _ s₂ => wpAny M A (setFlight (.ref e) none) K E s₂) E s := by
  obtain ⟨a0, hfl, hup⟩ := R
  refine wpAny_looks_onW hA hf hfl fun h₄ hh₄ u₄ => wpAny_landsW hh₄ fun h₅ hh₅ u₅ => hK h₅ ⟨a0, hh₅, (hup.trans u₄).trans u₅⟩
theorem clause {c : Value} {b : Bool} {t : PySem.Expr} {b₀ : Stmt} {suite : List Stmt} {pos : Pos} {rest : List ExceptHandler} {Q : Flow → Shared → Prop} (R : RaisedH h₁ fs e cls s.heap)
    (hname : ∀ (A' : Around) (E' : Value → Shared → Prop) (Q' : Value → Shared → Prop), Q' c s → wpAny (model PG w) A' (eval t env) Q' E' s)
    (hm : ∀ (A' : Around) (E' : Value → Shared → Prop) (Q' : Bool → Shared → Prop), Q' b s → wpAny (model PG w) A' (excMatches (.ref e) c) Q' E' s)
    (hit : b = true → ∀ h', RaisedH h₁ fs e cls h' → wpAny (model PG w) (A.mark (some (.ref e))) (execs (b₀ :: suite) env) Q E { s with heap := h' })
    (miss : b = false → wpAny (model PG w) A (handleBy (.ref e) env rest) Q E s)
    (hE : PassesOwnAt (model PG w) (A.mark (some (.ref e))) A env E) :
    wpAny (model PG w) A (handleBy (.ref e) env (.ExceptHandler (some t) none (b₀ :: suite) pos :: rest)) Q E s := by
  refine wpAny_handleBy_cons (codeAny_handlers_test (hname _ _ _ (hm _ _ _ ?_))) (by intro q; cases q)
  cases b with
  | false => exact miss rfl
  | true =>
    obtain ⟨a0, hfl, hup⟩ := R
    exact codeAny_handlers_suite (lands_againW hfl fun h₆ hfl₆ u₆ => wpAny_passesOwnAt hE (hit rfl h₆ ⟨a0, hfl₆, hup.trans u₆⟩))
theorem match_type {X T : String} {b : Bool} (R : RaisedH h₁ fs e (.type X) s.heap) (hexc : isSubtype (.type T) (.type "BaseException") = pure true) (hnt : isSubtype (.type ((Manifest.find? T).elim "type" fun x => x.metatype)) (.type "tuple") = pure false)
    (hsub : isSubtype (.type X) (.type T) = pure b) (A' : Around) (E' : Value → Shared → Prop) (Q' : Bool → Shared → Prop) (h : Q' b s) : wpAny M A' (excMatches (.ref e) (.type T)) Q' E' s := by
  obtain ⟨a0, hfl, hup⟩ := R
  obtain ⟨ob, h1, h2⟩ := hfl.there
  exact wpAny_excMatches_type ⟨ob, h1, h2⟩ hexc hnt hsub h
end
noncomputable def trunc (h : Heap) (n : Nat) : Heap := { h with objs := h.objs.extract 0 n }
theorem trunc_lt {h : Heap} {n b : Nat} (hb : b < n) : (trunc h n).get? b = h.get? b := by
  unfold trunc Heap.get?
  have : (h.objs.extract 0 n)[b]? = h.objs[b]? := by
    rw [Array.getElem?_extract]
    by_cases q : b < h.objs.size
    · rw [if_pos (by omega)]; simp
    · rw [if_neg (by omega)]; rw [Array.getElem?_eq_none (by omega)]
  simp only [this]
theorem trunc_size (h : Heap) (n : Nat) : (trunc h n).objs.size ≤ n := by
  unfold trunc
  simp
  omega
theorem trunc_sub {h : Heap} {n b : Nat} {o : Obj} (e : (trunc h n).get? b = some o) : h.get? b = some o ∧ b < n := by
  have hb : b < n := Nat.lt_of_lt_of_le (Heap.lt_size e) (trunc_size h n)
  exact ⟨by rw [← trunc_lt hb]; exact e, hb⟩
theorem caught_open {h0 h₁ h' base : Heap} {fs : List Env} {env : Env} {L e : Addr} {cls : Value} {H : List Addr} {m : Str → Option Value} {news : List (Addr × Obj)}
    (R : RaisedH h₁ (env :: fs) e cls h') (hf : env.frame = some L) (hL : L = h0.objs.size) (F : Fr (hideAll h0 H) L h₁ m) (N : News (hideAll h0 H) L h₁ news) (hfs : FramesOk h0 fs)
    (hb : KeepAll base h0) (hbf : ∀ b ∈ frs fs, base.get? b = none) (hbH : ∀ b ∈ H, base.get? b = none) (hnH : ∀ p ∈ news, p.1 ∈ H) (hHf : ∀ b ∈ H, b ∉ frs fs) :
    Fr (hideAll (trunc h' L) H) L h' m ∧ News (hideAll (trunc h' L) H) L h' news ∧ KeepAll base (hideAll (trunc h' L) H) ∧
      (∀ h3 m3, Fr (hideAll (trunc h' L) H) L h3 m3 → (∀ b ∈ H, ∀ o, h0.get? b = some o → h3.get? b = some o) → KeepF fs h0 h3) := by
  have hK := R.keepF
  have nL : ∀ b ∈ frs (env :: fs), b ∉ frs fs → b = L := fun b hb hn => by
    obtain ⟨e', he', h2⟩ := List.mem_filterMap.mp hb
    rcases List.mem_cons.mp he' with rfl | he'
    · rw [hf] at h2; cases h2; rfl
    · exact absurd (List.mem_filterMap.mpr ⟨e', he', h2⟩) hn
  have keep0 : ∀ b o, b ∉ H → b ∉ frs fs → h0.get? b = some o → h'.get? b = some o := fun b o n1 n2 q => by
    refine hK.1 b o (fun hm => ?_) (F.keep _ _ (hideAll_get _ q n1))
    have := Heap.lt_size q
    rw [nL b hm n2, hL] at this
    exact Nat.lt_irrefl _ this
  have F4 : Fr (hideAll (trunc h' L) H) L h' m := ⟨hK.2.ns F.ns, fun b o q => (trunc_sub (of_hideAll _ q)).1, by rw [hideAll_size]; exact trunc_size _ _⟩
  refine ⟨F4, fun p hp => ?_, fun b o q => ?_, fun h3 m3 F3 hH3 => ⟨fun b o n q => ?_, fun b o q hd => ?_⟩⟩
  · obtain ⟨n1, n2, n3⟩ := N p hp
    refine ⟨hK.1 _ _ (fun hm => n2 (nL _ hm (hHf _ (hnH p hp)))) n1, n2, hideAll_none _ (hnH p hp)⟩
  · have hbn : b ∉ H := fun hm => by rw [hbH b hm] at q; cases q
    have hbn2 : b ∉ frs fs := fun hm => by rw [hbf b hm] at q; cases q
    refine hideAll_get _ ?_ hbn
    rw [trunc_lt (by rw [hL]; exact Heap.lt_size (hb _ _ q))]
    exact keep0 b o hbn hbn2 (hb _ _ q)
  · by_cases hbn : b ∈ H
    · exact hH3 b hbn o q
    · refine F3.keep _ _ (hideAll_get _ ?_ hbn)
      rw [trunc_lt (by rw [hL]; exact Heap.lt_size q)]
      exact keep0 b o hbn n q
  · by_cases hbn : b ∈ H
    · exact ⟨o.slots, hH3 b hbn o q⟩
    · obtain ⟨sl, z⟩ := hK.2 b o (F.keep _ _ (hideAll_get _ q hbn)) hd
      exact ⟨sl, F3.keep _ _ (hideAll_get _ (by rw [trunc_lt (by rw [hL]; exact Heap.lt_size q)]; exact z) hbn)⟩
theorem keep_H {g h h3 : Heap} {L dg r dx dp : Addr} {w : World} {t1 t2 : Tok} {o : Obj} {news : List (Addr × Obj)} (N : News g L h3 news) (m1 : (dg, o) ∈ news) (m2 : (r, instObj 281 dx) ∈ news) (m3 : (dx, refsDict w t1 t2 dg dp) ∈ news)
    (e1 : h.get? dg = some o) (e2 : h.get? r = some (instObj 281 dx)) (e3 : h.get? dx = some (refsDict w t1 t2 dg dp)) : ∀ b ∈ [dg, r, dx], ∀ o', h.get? b = some o' → h3.get? b = some o' := fun b hb o' q => by
  rcases List.mem_cons.mp hb with rfl | hb
  · rw [e1] at q; cases q; exact (N _ m1).1
  rcases List.mem_cons.mp hb with rfl | hb
  · rw [e2] at q; cases q; exact (N _ m2).1
  · rw [List.mem_singleton.mp hb] at q ⊢; rw [e3] at q; cases q; exact (N _ m3).1
theorem base_H {base h0 : Heap} {dg r dx : Addr} (hb : KeepAll base (hideAll h0 [dg, r, dx])) : ∀ b ∈ [dg, r, dx], base.get? b = none := fun b hm => by
  cases q : base.get? b with
  | none => rfl
  | some o => have := hb _ _ q; rw [hideAll_none _ hm] at this; cases this
theorem mem_H {dg r dx : Addr} {o1 o2 o3 : Obj} : ∀ p ∈ [(dg, o1), (r, o2), (dx, o3)], p.1 ∈ [dg, r, dx] := fun p hp => by
  rcases List.mem_cons.mp hp with rfl | hp
  · exact .head _
  rcases List.mem_cons.mp hp with rfl | hp
  · exact .tail _ (.head _)
  · rw [List.mem_singleton.mp hp]; exact .tail _ (.tail _ (.head _))
theorem sep_H {fs : List Env} {H : List Addr} (sp : ∀ b ∈ frs fs, b ∉ H) : ∀ b ∈ H, b ∉ frs fs := fun b h1 h2 => sp b h2 h1
theorem fr_turn {g h h' : Heap} {L d : Addr} {m : Str → Option Value} {o : Obj} {news : List (Addr × Obj)} (F : Fr g L h m) (N : News g L h news) (hm : (d, o) ∈ news) (k : Keep [d] h h') : Fr g L h' m :=
  fr_but F (fun b ob n q => k b ob (fun r => n (List.mem_singleton.mp r)) q) (N _ hm).2.1.symm (N _ hm).2.2
theorem news_turn {g h h' : Heap} {L d : Addr} {o o' : Obj} {news : List (Addr × Obj)} {u : Obj → List (Addr × Obj)} (N : News g L h news) (U : UpdF d o news u) (k : Keep [d] h h') (e : h'.get? d = some o') : News g L h' (u o') := by
  obtain ⟨own, rest, rfl, hg, h1, h2⟩ := U.split
  rw [hg o']
  intro p hp
  rcases List.mem_append.mp hp with hp | hp
  · obtain ⟨a, b, c⟩ := N p (List.mem_append_left _ hp)
    exact ⟨k _ _ (fun q => h1 p hp (List.mem_singleton.mp q)) a, b, c⟩
  rcases List.mem_cons.mp hp with rfl | hp
  · obtain ⟨a, b, c⟩ := N (d, o) (List.mem_append_right _ (.head _))
    exact ⟨e, b, c⟩
  · obtain ⟨a, b, c⟩ := N p (List.mem_append_right _ (.tail _ hp))
    exact ⟨k _ _ (fun q => h2 p hp (List.mem_singleton.mp q)) a, b, c⟩
theorem fr_col2 {base g h h' h₀ : Heap} {L d : Addr} {m : Str → Option Value} {o : Obj} {news : List (Addr × Obj)} (F : Fr g L h m) (N : News g L h news) (hm : (d, o) ∈ news) (hbg : KeepAll base g) (C : ColAt base h₀) (k : Keep [d, 103] h h') : Fr (hideAll g [103]) L h' m := by
  have hL : L ≠ 103 := fun q => absurd (Nat.lt_of_lt_of_le (C.lt hbg) F.above) (by rw [q]; exact Nat.lt_irrefl _)
  obtain ⟨_, hd1, hd2⟩ := N _ hm
  refine ⟨F.ns.at' fun o e => k _ _ (fun hm => ?_) e, fun b o e => ?_, by rw [hideAll_size]; exact F.above⟩
  · rcases List.mem_cons.mp hm with q | hm
    · exact hd1 q.symm
    · exact hL (List.mem_singleton.mp hm)
  · refine k _ _ (fun hm => ?_) (F.keep _ _ (of_hideAll _ e))
    rcases List.mem_cons.mp hm with q | hm
    · rw [q] at e; rw [of_hideAll _ e] at hd2; cases hd2
    · rw [hideAll_none _ hm] at e; cases e
theorem news_col2 {base g h h' h₀ : Heap} {L d : Addr} {m : Str → Option Value} {o o' : Obj} {news : List (Addr × Obj)} {u : Obj → List (Addr × Obj)} {ps : Array Value} (F : Fr g L h m) (N : News g L h news) (U : UpdF d o news u) (hbg : KeepAll base g) (C : ColAt base h₀) (k : Keep [d, 103] h h') (ed : h'.get? d = some o') (ne : ∀ p ∈ news, p.1 ≠ 103) (e : h'.get? 103 = some (tabObj ps)) : News (hideAll g [103]) L h' ((103, tabObj ps) :: u o') := by
  have hL : (103 : Addr) ≠ L := fun q => absurd (Nat.lt_of_lt_of_le (C.lt hbg) F.above) (by rw [← q]; exact Nat.lt_irrefl _)
  have hid : ∀ b, g.get? b = none → (hideAll g [103]).get? b = none := fun b c => by
    cases q : (hideAll g [103]).get? b with
    | none => rfl
    | some o => rw [of_hideAll _ q] at c; cases c
  obtain ⟨own, rest, rfl, hg, h1, h2⟩ := U.split
  have old : ∀ p ∈ own ++ (d, o) :: rest, p.1 ≠ d → h'.get? p.1 = some p.2 ∧ p.1 ≠ L ∧ (hideAll g [103]).get? p.1 = none := fun p hp hd => by
    obtain ⟨a, b, c⟩ := N p hp
    refine ⟨k _ _ (fun hm => ?_) a, b, hid _ c⟩
    rcases List.mem_cons.mp hm with q | hm
    · exact hd q
    · exact ne p hp (List.mem_singleton.mp hm)
  rw [hg o']
  intro p hp
  rcases List.mem_cons.mp hp with rfl | hp
  · exact ⟨e, hL, hideAll_none _ (.head _)⟩
  rcases List.mem_append.mp hp with hp | hp
  · exact old p (List.mem_append_left _ hp) (h1 p hp)
  rcases List.mem_cons.mp hp with rfl | hp
  · obtain ⟨a, b, c⟩ := N (d, o) (List.mem_append_right _ (.head _))
    exact ⟨ed, b, hid _ c⟩
  · exact old p (List.mem_append_right _ (.tail _ hp)) (h2 p hp)
theorem refs_turnC {w : World} {h h₁ g : Heap} {r dg dx dp L : Addr} {t1 t2 : Tok} {m : Str → Option Value} {news : List (Addr × Obj)} (F : Fr (hideAll (hideAll h [dg, r, dx]) [103]) L h₁ m) (N : News g L h₁ news) (m2 : (r, instObj 281 dx) ∈ news) (m3 : (dx, refsDict w t1 t2 dg dp) ∈ news)
    (e2 : h.get? r = some (instObj 281 dx)) (e3 : h.get? dx = some (refsDict w t1 t2 dg dp)) : Keep [dg, 103] h h₁ := fun b ob n e => by
  have n1 : b ≠ dg := fun q => n (q ▸ .head _)
  have n2 : b ≠ 103 := fun q => n (q ▸ .tail _ (.head _))
  by_cases h1 : b ∈ [dg, r, dx]
  · rcases List.mem_cons.mp h1 with rfl | h1
    · exact absurd rfl n1
    rcases List.mem_cons.mp h1 with rfl | h1
    · rw [e2] at e; cases e; exact (N _ m2).1
    · rw [List.mem_singleton.mp h1] at e ⊢; rw [e3] at e; cases e; exact (N _ m3).1
  · exact F.keep b ob (hideAll_get _ (hideAll_get _ e h1) fun hm => n2 (List.mem_singleton.mp hm))
theorem resNone : ResIs none Value.none := rfl
theorem resSome {b : Bts} {t : Tok} : ResIs (some b) (Value.bytes b.toArray t) := ⟨_, rfl⟩
theorem base_frames {base g h : Heap} {L : Addr} {m : Str → Option Value} {fs : List Env} {env : Env} (F : Fr g L h m) (hf : env.frame = some L) (hbg : KeepAll base g) (hbf : ∀ b ∈ frs fs, base.get? b = none) : ∀ b ∈ frs (env :: fs), base.get? b = none := fun b hb => by
  obtain ⟨e', he', h2⟩ := List.mem_filterMap.mp hb
  rcases List.mem_cons.mp he' with rfl | he'
  · rw [hf] at h2; cases h2
    cases q : base.get? L with
    | none => rfl
    | some o => have := hbg _ _ q; rw [Heap.get?_none_of_le F.above] at this; cases this
  · exact hbf b (List.mem_filterMap.mpr ⟨e', he', h2⟩)
theorem keepF_out {h0 h h' : Heap} {fs : List Env} {env : Env} {L : Addr} (k : KeepAll h0 h) (K : KeepF (env :: fs) h h') (hf : env.frame = some L) (hL : h0.get? L = none) : KeepF fs h0 h' := by
  refine ⟨fun b o n q => K.1 b o (fun hm => ?_) (k b o q), (Heap.UpToSlots.of_keeps k).trans K.2⟩
  obtain ⟨e', he', h2⟩ := List.mem_filterMap.mp hm
  rcases List.mem_cons.mp he' with rfl | he'
  · rw [hf] at h2; cases h2; rw [hL] at q; cases q
  · exact n (List.mem_filterMap.mpr ⟨e', he', h2⟩)
theorem no_old {z : Bts} {p : Prop} (h : ∃ b, (none : Option Bts) = some b ∧ z ≠ b) : p := by
  obtain ⟨_, q, _⟩ := h; cases q
end
example : ∀ w A s Q E, TZ w A s Q E → TZ w A s Q E := by intro w A s Q E h; w_top off; first | (walk1; fail) | exact h
section
def gC6.siteTag : Unit := ()
open gC6
section
variable {p9 : Program} {lo9 : List Str} {w : World} {A : Around} {s : Shared} {base : Heap} {mg mb : Str → Option Value} {mean : ExcName → Option Value} {Q E : Value → Shared → Prop}
example : True := by
  k_with "gC6 call builtin:dict.get" => (k_here; (with_reducible show wpAny _ _ (call (Value.builtin _) [Value.ref _, Value.bytes _ _]) _ _ _); k_dflt (refine' bget1R ?bN ?bp ?bB ?lo ?_; (case bN => k_asm); (case bp => k_mem); (case bB => with_reducible assumption); (case lo => with_reducible assumption); k_whole); intro v' hr')
  k_with "gC6 call ref" => (k_here; (try dsimp only [List.nil_append, List.cons_append, List.append_nil]); (with_reducible show wpAny _ _ (call (Value.ref 67) _) _ _ _); k_dflt (refine' spec_Ref ?sX ?sT ?sb ?sr ?su ?sh ?_; (case sb => exact keep_base (by k_asm) (by k_asm)); (case sX => k_asm); (case sT => k_asm); (case sr => k_room); (case su => k_units); (case sh => k_asm)); (all_goals first | ((with_reducible intro h' tk' kk'); (have F' := fr_keepAll (by k_asm) kk'); (have N' := news_keepAll (by k_asm) kk'); (try k_sweep))))
  k_with "gC6 call ref" => (k_here; (try dsimp only [List.nil_append, List.cons_append, List.append_nil]); (with_reducible show wpAny _ _ (call (Value.ref 53) _) _ _ _); k_dflt (refine' spec_Obj ?sX ?sT ?sb ?sr ?su ?sh ?_; (case sb => exact keep_base (by k_asm) (by k_asm)); (case sX => k_asm); (case sT => k_asm); (case sr => k_room); (case su => k_units); (case sh => k_asm)); (all_goals first | ((with_reducible intro h' tk' kk'); (have F' := fr_keepAll (by k_asm) kk'); (have N' := news_keepAll (by k_asm) kk'); (try k_sweep))))
  k_with "gC6 call ref" => (k_here; (try dsimp only [List.nil_append, List.cons_append, List.append_nil]); (with_reducible show wpAny _ _ (call (Value.ref 159) _) _ _ _); k_dflt (refine' spec_read ?sX ?sT ?sb ?sr ?su ?sh ?sR ?sV ?_ ?_; (case sb => exact keep_base (by k_asm) (by k_asm)); (case sX => k_asm); (case sT => k_asm); (case sr => k_room); (case su => k_units); (case sh => k_asm); (case sR => ktr_unf); (case sV => k_asm)); (all_goals first | ((with_reducible intro v' t' h' tk' hgv' kk'); (have F' := fr_keepAll (by k_asm) kk'); (have N' := news_keepAll (by k_asm) kk'); (try k_sweep)) | ((with_reducible intro h' tk' hgn' kk'); (have F' := fr_keepAll (by k_asm) kk'); (have N' := news_keepAll (by k_asm) kk'); (try k_sweep))))
  k_with "gC6 call ref" => (k_here; (try dsimp only [List.nil_append, List.cons_append, List.append_nil]); (with_reducible show wpAny _ _ (call (Value.ref 166) _) _ _ _); k_dflt (refine' spec_follow2 ?sX ?sT ?sb ?sr ?su ?sh ?sR ?sV ?sk ?sA ?sF ?_ ?_ ?_; (case sb => exact keep_base (by k_asm) (by k_asm)); (case sX => k_asm); (case sT => k_asm); (case sr => k_room); (case su => k_units); (case sh => k_asm); (case sA => exact Around.frames_deeper (by k_asm)); (case sF => exact frames_push (by k_asm) (FramesOk.keep (by k_asm) (by ktr_rel)) (by first | exact rfl | k_asm) rfl); (case sR => exact refs_at3 (by k_asm) (by k_asm) (by k_asm) rfl (by k_asm) (by k_mem) (by k_mem) (by k_mem) (by k_asm) (by k_asm)); (case sV => k_asm); (case sk => k_asm)); (all_goals first | ((with_reducible intro T' l' v' tv' vs' ps' c' h' tk' hf' hb' kk' eT' eL' nT' nL'); (have neT := allNe (by k_asm) (by k_asm) nT'); (have neL := allNe (by k_asm) (by k_asm) nL'); (simp only [AllNe, and_true] at neT neL); (have N' := news_more (by k_asm) (news_more (by k_asm) (news_keepAll (by k_asm) kk') eL' nL') eT' nT'); (have F' := fr_keepAll (by k_asm) kk'); (try k_sweep)) | ((with_reducible intro T' l' vs' ps' c' h' tk' hf' hb' kk' eT' eL' nT' nL'); (have neT := allNe (by k_asm) (by k_asm) nT'); (have neL := allNe (by k_asm) (by k_asm) nL'); (simp only [AllNe, and_true] at neT neL); (have N' := news_more (by k_asm) (news_more (by k_asm) (news_keepAll (by k_asm) kk') eL' nL') eT' nT'); (have F' := fr_keepAll (by k_asm) kk'); (try k_sweep)) | ((with_reducible intro hf' h' tk' e' R'); (with_reducible replace R' : RaisedH _ _ _ _ _ := R'))))
  k_with "gC6 call ref" => (k_here; (try dsimp only [List.nil_append, List.cons_append, List.append_nil]); (with_reducible show wpAny _ _ (call (Value.ref 152) _) _ _ _); k_dflt (refine' spec_chkv ?sX ?sT ?sb ?sr ?su ?sh ?sA ?sF ?sk ?_ ?_; (case sb => exact keep_base (by k_asm) (by k_asm)); (case sX => k_asm); (case sT => k_asm); (case sr => k_room); (case su => k_units); (case sh => k_asm); (case sA => exact Around.frames_deeper (by k_asm)); (case sF => exact frames_push (by k_asm) (FramesOk.keep (by k_asm) (by ktr_rel)) (by first | exact rfl | k_asm) rfl); (case sk => k_asm)); (all_goals first | ((with_reducible intro hv' h' tk' kk'); (have F' := fr_keepAll (by k_asm) kk'); (have N' := news_keepAll (by k_asm) kk'); (try k_sweep)) | ((with_reducible intro hv' h' tk' e' R'); (with_reducible replace R' : RaisedH _ _ _ _ _ := R'))))
  k_with "gC6 call ref" => (k_here; (try dsimp only [List.nil_append, List.cons_append, List.append_nil]); (with_reducible show wpAny _ _ (call (Value.ref 145) _) _ _ _); k_dflt (refine' spec_chkn ?sX ?sT ?sb ?sr ?su ?sh ?sA ?sF ?sk ?sC ?sG ?_ ?_; (case sb => exact keep_base (by k_asm) (by k_asm)); (case sX => k_asm); (case sT => k_asm); (case sr => k_room); (case su => k_units); (case sh => k_asm); (case sA => exact Around.frames_deeper (by k_asm)); (case sF => exact frames_push (by k_asm) (FramesOk.keep (by k_asm) (by ktr_rel)) (by first | exact rfl | k_asm) rfl); (case sk => k_asm); (case sC => exact ColAt.keep (by k_asm) (by ktr_rel)); (case sG => k_asm)); (all_goals first | ((have hc9 := ColAt.keep (by k_asm) (by ktr_rel)); (with_reducible intro hv' h' g' d' tk' kk' cc' ag'); (have off9 := ColAt.off hc9 (by k_asm) (by (repeat' (first | exact all_nil | (with_reducible refine all_cons ?_ ?_))); (all_goals first | exact bobj_cls (by k_asm) | (intro q9; cases q9; done)))); (have ne9 := offAll off9); (simp only [AllNe, and_true] at ne9); (obtain ⟨ps', et', tr'⟩ := id (ColAt.tab cc')); (have hb2' := base_col cc' (by k_asm)); (k_dflt (have N' := news_col (by k_asm) (by k_asm) (by k_asm) cc' kk' off9 et')); (k_dflt (have F' := fr_col (by k_asm) (by k_asm) cc' kk')); (have X' := Frag.In.keeps (by k_asm) hb2'); (have T' := Top.keeps (by k_asm) hb2'); (try k_sweep)) | ((with_reducible intro hv' h' tk' e' R'); (with_reducible replace R' : RaisedH _ _ _ _ _ := R'))))
  trivial
set_option maxHeartbeats 4000000 in
theorem spec_set {k v : Bts} {t u : Tok} {old : Option Bts} {ov : Value} {fs : List Env} {r dg : Addr} {D : DD} (X : (hd.heap_1 w.params).In base) (T : Top p9 lo9 mean mg mb base) (hb : KeepAll base s.heap) (hroom : A.depth + 10 < recursionLimit) (hun : A.units + 100 < cLine) (hhd : A.handled = none) (hR : RefsAt w base fs s.heap r dg D) (hV : ValsOk D) (hD : D.length ≤ 100) (hA : A.frames = some fs) (hfs : FramesOk s.heap fs) (hk : k ∈ names9) (hv : v ∈ vals6) (ho : ResIs old ov) (hol : ∀ b, old = some b → b.length ≤ 64) (hC : ColAt base s.heap) (hG : AllBare s.gens)
    (h : v ≠ badV → (∀ b, old = some b → (getB D k).getD zeroV = b) → okName k = true → ∀ h' g' d' tk' o', Keep [dg, 103] s.heap h' → h'.get? dg = some o' → BObj w o' (putB D k v) → ColAt base h' → AllBare g' → Q (.bool true) { s with heap := h', gens := g', drawn := d', toks := tk' })
    (hF : v ≠ badV → (∃ b, old = some b ∧ (getB D k).getD zeroV ≠ b) → ∀ h' tk', KeepAll s.heap h' → Q (.bool false) { s with heap := h', toks := tk' })
    (hN : v ≠ badV → (∀ b, old = some b → (getB D k).getD zeroV = b) → okName k = false → ∀ h' tk' e, RaisedH s.heap fs e (.ref 31) h' → E (.ref e) { s with heap := h', toks := tk' })
    (hE : v = badV → ∀ h' tk' e, RaisedH s.heap fs e (.type "ValueError") h' → E (.ref e) { s with heap := h', toks := tk' }) :
    wpAny (model PG w) A (call (.ref 257) [.ref r, .bytes k.toArray t, ov, .bytes v.toArray u]) Q E s := by
  refine wpAny_call ?_
  refine' enter_def (binds := [(Str.ofString "self", Value.ref r), (Str.ofString "name", Value.bytes k.toArray t), (Str.ofString "old_ref", ov), (Str.ofString "new_ref", Value.bytes v.toArray u)]) (X.keeps hb) (T.keeps hb) ?k6 ?k7 ?k8 ?k9 ?kB ?_ ?c2 ?c3 ?c4 ?c5
  case k6 => k_is
  case k7 => k_is
  case k8 => omega
  case k9 => exact BindsTo.of_eq rfl
  case kB => exact locs rfl
  case c2 => exact rfl
  case c3 => exact rfl
  case c4 => exact rfl
  case c5 => decide
  intro L' h' hL F'
  obtain ⟨dx, dp, t1, t2, o, F1, N1, X1, T1, hB, lo, n1, n2, n3, e1, e2, e3, hbg, sp⟩ := hR.open F' X T hb
  clear F'
  (try dsimp only)
  (try k_fold)
  have hzl : ([48, 48, 48, 48, 48, 48, 48, 48, 48, 48, 48, 48, 48, 48, 48, 48, 48, 48, 48, 48, 48, 48, 48, 48, 48, 48, 48, 48, 48, 48, 48, 48, 48, 48, 48, 48, 48, 48, 48, 48] : Bts) = zeroV := rfl
  cases old with
  | none =>
    obtain rfl : ov = .none := ho
    k_steps
    · exact h (by k_asm) old_none (by k_asm) _ _ _ _ _ (refs_turnC (by k_asm) (by k_asm) (by k_mem) (by k_mem) (by k_asm) (by k_asm)) (News.get (by k_asm) (by k_mem)) (by k_asm) (ColAt.at (by k_asm) (News.get (by k_asm) (by k_mem)) (by k_asm)) (by k_asm)
    · exact leave_on hA rfl (hL ▸ fresh_size _) (by ktr_rel) (by k_asm) fun _ R => hN (by k_asm) old_none (by k_asm) _ _ _ R
    · exact leave_on hA rfl (hL ▸ fresh_size _) (by ktr_rel) (by k_asm) fun _ R => hE (by k_asm) _ _ _ R
  | some b =>
    obtain ⟨tb, rfl⟩ := ho
    k_steps
    · exact hF (by k_asm) ⟨_, rfl, ne_of_bne (by k_asm)⟩ _ _ (by ktr_rel)
    · exact h (by k_asm) (old_of (eq_of_bne (by k_asm))) (by k_asm) _ _ _ _ _ (refs_turnC (by k_asm) (by k_asm) (by k_mem) (by k_mem) (by k_asm) (by k_asm)) (News.get (by k_asm) (by k_mem)) (by k_asm) (ColAt.at (by k_asm) (News.get (by k_asm) (by k_mem)) (by k_asm)) (by k_asm)
    · exact leave_on hA rfl (hL ▸ fresh_size _) (by ktr_rel) (by k_asm) fun _ R => hN (by k_asm) (old_of (eq_of_bne (by k_asm))) (by k_asm) _ _ _ R
    · exact leave_on hA rfl (hL ▸ fresh_size _) (by ktr_rel) (by k_asm) fun _ R => hE (by k_asm) _ _ _ R
set_option maxHeartbeats 4000000 in
theorem spec_remove {k : Bts} {t : Tok} {old : Option Bts} {ov : Value} {fs : List Env} {r dg : Addr} {D : DD} (X : (hd.heap_1 w.params).In base) (T : Top p9 lo9 mean mg mb base) (hb : KeepAll base s.heap) (hroom : A.depth + 8 < recursionLimit) (hun : A.units + 80 < cLine) (hhd : A.handled = none) (hR : RefsAt w base fs s.heap r dg D) (hD : D.length ≤ 100) (hA : A.frames = some fs) (hfs : FramesOk s.heap fs) (hbf : ∀ b ∈ frs fs, base.get? b = none) (ho : ResIs old ov) (hol : ∀ b, old = some b → b.length ≤ 64)
    (h : (∀ b, old = some b → (getB D k).getD zeroV = b) → (getB D k).isSome = true → ∀ h' tk' o', Keep [dg] s.heap h' → h'.get? dg = some o' → BObj w o' (delB D k) → Q (.bool true) { s with heap := h', toks := tk' })
    (h0 : (∀ b, old = some b → (getB D k).getD zeroV = b) → getB D k = none → ∀ h' tk', KeepF fs s.heap h' → Q (.bool true) { s with heap := h', toks := tk' })
    (hF : (∃ b, old = some b ∧ (getB D k).getD zeroV ≠ b) → ∀ h' tk', KeepAll s.heap h' → Q (.bool false) { s with heap := h', toks := tk' }) :
    wpAny (model PG w) A (call (.ref 271) [.ref r, .bytes k.toArray t, ov]) Q E s := by
  refine wpAny_call ?_
  refine' enter_def (binds := [(Str.ofString "self", Value.ref r), (Str.ofString "name", Value.bytes k.toArray t), (Str.ofString "old_ref", ov)]) (X.keeps hb) (T.keeps hb) ?k6 ?k7 ?k8 ?k9 ?kB ?_ ?c2 ?c3 ?c4 ?c5
  case k6 => k_is
  case k7 => k_is
  case k8 => omega
  case k9 => exact BindsTo.of_eq rfl
  case kB => exact locs rfl
  case c2 => exact rfl
  case c3 => exact rfl
  case c4 => exact rfl
  case c5 => decide
  intro L' h' hL F'
  obtain ⟨dx, dp, t1, t2, o, F1, N1, X1, T1, hB, lo, n1, n2, n3, e1, e2, e3, hbg, sp⟩ := hR.open F' X T hb
  clear F'
  (try dsimp only)
  (try k_fold)
  cases old with
  | none =>
    obtain rfl : ov = .none := ho
    cases hg : getB D k with
    | none =>
      k_steps
      obtain ⟨nk, nn, ob, tt, nhe, nhc, nhd⟩ := (by assumption : Heap.NewExc _ _ _ "KeyError")
      refine looks_new (L := L') (Around.frames_deeper hA) (frames_push (by k_asm) (hfs.keep (by ktr_rel)) rfl rfl) rfl nhe nn nk nhc nhd rfl rfl fun h5 R => ?_
      rename Fr _ _ _ _ => F8
      rename News _ _ _ _ => N8
      obtain ⟨F4, N4, hb4, -⟩ := caught_open (H := [dg, r, dx]) R rfl hL F8 N8 hfs hb hbf (base_H hbg) mem_H (sep_H sp)
      refine clause (c := .type "KeyError") (b := true) R (fun A' E' Q' q => name_B F4 (X.keeps hb4) (topRead_of (T.keeps hb4)) (by k_is) (by rfl) (by decide) q rfl rfl) (fun A9 E9 Q9 q9 => match_type R kr_isExc_KeyError kr_notTuple_KeyError (by rw [isSubtype_type]; kernel_rfl) A9 E9 Q9 q9) (fun _ h6 R6 => ?_) (fun q => by cases q) (by passes_own)
      clear F4 N4 hb4
      obtain ⟨F4, N4, hb4, close⟩ := caught_open (H := [dg, r, dx]) R6 rfl hL F8 N8 hfs hb hbf (base_H hbg) mem_H (sep_H sp)
      have X4 := X.keeps hb4
      have T4 := T.keeps hb4
      clear F8 N8 R R6 nk nhe X1 T1
      k_steps
      exact h0 old_none hg _ _ (close _ _ (by k_asm) (keep_H (by k_asm) (by k_mem) (by k_mem) (by k_mem) e1 e2 e3))
    | some v =>
      have hs : (getB D k).isSome = true := by rw [hg]; rfl
      k_steps
      exact h old_none hs _ _ _ (refs_turn (by k_asm) (by k_asm) (by k_mem) (by k_mem) (by k_asm) (by k_asm)) (News.get (by k_asm) (by k_mem)) (by k_asm)
  | some b =>
    obtain ⟨tb, rfl⟩ := ho
    cases hg : getB D k with
    | none =>
      k_steps
      rotate_left 1
      obtain ⟨nk, nn, ob, tt, nhe, nhc, nhd⟩ := (by assumption : Heap.NewExc _ _ _ "KeyError")
      refine looks_new (L := L') (Around.frames_deeper hA) (frames_push (by k_asm) (hfs.keep (by ktr_rel)) rfl rfl) rfl nhe nn nk nhc nhd rfl rfl fun h5 R => ?_
      rename Fr _ _ _ _ => F8
      rename News _ _ _ _ => N8
      obtain ⟨F4, N4, hb4, -⟩ := caught_open (H := [dg, r, dx]) R rfl hL F8 N8 hfs hb hbf (base_H hbg) mem_H (sep_H sp)
      refine clause (c := .type "KeyError") (b := true) R (fun A' E' Q' q => name_B F4 (X.keeps hb4) (topRead_of (T.keeps hb4)) (by k_is) (by rfl) (by decide) q rfl rfl) (fun A9 E9 Q9 q9 => match_type R kr_isExc_KeyError kr_notTuple_KeyError (by rw [isSubtype_type]; kernel_rfl) A9 E9 Q9 q9) (fun _ h6 R6 => ?_) (fun q => by cases q) (by passes_own)
      clear F4 N4 hb4
      obtain ⟨F4, N4, hb4, close⟩ := caught_open (H := [dg, r, dx]) R6 rfl hL F8 N8 hfs hb hbf (base_H hbg) mem_H (sep_H sp)
      have X4 := X.keeps hb4
      have T4 := T.keeps hb4
      clear F8 N8 R R6 nk nhe X1 T1
      k_steps
      exact h0 (old_of (eq_of_bne (by k_asm))) hg _ _ (close _ _ (by k_asm) (keep_H (by k_asm) (by k_mem) (by k_mem) (by k_mem) e1 e2 e3))
      exact hF ⟨_, rfl, ne_of_bne (by k_asm)⟩ _ _ (by ktr_rel)
    | some v =>
      have hs : (getB D k).isSome = true := by rw [hg]; rfl
      k_steps
      · exact hF ⟨_, rfl, ne_of_bne (by k_asm)⟩ _ _ (by ktr_rel)
      · exact h (old_of (eq_of_bne (by k_asm))) hs _ _ _ (refs_turn (by k_asm) (by k_asm) (by k_mem) (by k_mem) (by k_asm) (by k_asm)) (News.get (by k_asm) (by k_mem)) (by k_asm)
end
end
example : ∀ w A s Q E, TZ w A s Q E → TZ w A s Q E := by intro w A s Q E h; w_top off; first | (walk1; fail) | exact h
section
def gC7.siteTag : Unit := ()
open gC7
section
variable {p9 : Program} {lo9 : List Str} {w : World} {A : Around} {s : Shared} {base : Heap} {mg mb : Str → Option Value} {mean : ExcName → Option Value} {Q E : Value → Shared → Prop}
example : True := by
  k_with "gC7 call ref" => (k_here; (try dsimp only [List.nil_append, List.cons_append, List.append_nil]); (with_reducible show wpAny _ _ (call (Value.ref 152) _) _ _ _); k_dflt (refine' spec_chkv ?sX ?sT ?sb ?sr ?su ?sh ?sA ?sF ?sk ?_ ?_; (case sb => exact keep_base (by k_asm) (by k_asm)); (case sX => k_asm); (case sT => k_asm); (case sr => k_room); (case su => k_units); (case sh => k_asm); (case sA => exact Around.frames_deeper (by k_asm)); (case sF => exact frames_push (by k_asm) (FramesOk.keep (by k_asm) (by ktr_rel)) (by first | exact rfl | k_asm) rfl); (case sk => k_asm)); (all_goals first | ((with_reducible intro hv' h' tk' kk'); (have F' := fr_keepAll (by k_asm) kk'); (have N' := news_keepAll (by k_asm) kk'); (try k_sweep)) | ((with_reducible intro hv' h' tk' e' R'); (with_reducible replace R' : RaisedH _ _ _ _ _ := R'))))
  k_with "gC7 call ref" => (k_here; (try dsimp only [List.nil_append, List.cons_append, List.append_nil]); (with_reducible show wpAny _ _ (call (Value.ref 257) _) _ _ _); k_dflt (refine' spec_set ?sX ?sT ?sb ?sr ?su ?sh ?sR ?sV ?sD ?sA ?sF ?sk ?sv ?so ?sl ?sC ?sG ?_ ?_ ?_ ?_; (case sb => exact keep_base (by k_asm) (by k_asm)); (case sX => k_asm); (case sT => k_asm); (case sr => k_room); (case su => k_units); (case sh => k_asm); (case sA => exact Around.frames_deeper (by k_asm)); (case sF => exact frames_push (by k_asm) (FramesOk.keep (by k_asm) (by ktr_rel)) (by first | exact rfl | k_asm) rfl); (case sR => exact refs_at3 (by k_asm) (by k_asm) (by k_asm) rfl (by k_asm) (by k_mem) (by k_mem) (by k_mem) (by k_asm) (by k_asm)); (case sV => k_asm); (case sD => k_asm); (case sk => k_asm); (case sv => k_asm); (case so => (first | exact resNone | exact resSome | k_asm)); (case sl => (intro _ q; cases q)); (case sC => exact ColAt.keep (by k_asm) (by ktr_rel)); (case sG => k_asm)); (all_goals first | ((have hc9 := ColAt.keep (by k_asm) (by ktr_rel)); (with_reducible intro hv' ho' hk' h' g' d' tk' o' kk' ed' bd' cc' ag'); (have off9 := ColAt.off hc9 (by k_asm) (by (repeat' (first | exact all_nil | (with_reducible refine all_cons ?_ ?_))); (all_goals first | exact bobj_cls (by k_asm) | (intro q9; cases q9; done)))); (have ne9 := offAll off9); (simp only [AllNe, and_true] at ne9); (obtain ⟨ps', et', tr'⟩ := id (ColAt.tab cc')); (have hb2' := base_col cc' (by k_asm)); (k_dflt (have N' := news_col2 (by k_asm) (by k_asm) (by k_updF) (by k_asm) cc' kk' ed' off9 et')); (try dsimp only at N'); (k_dflt (have F' := fr_col2 (by k_asm) (by k_asm) (by k_mem) (by k_asm) cc' kk')); (have X' := Frag.In.keeps (by k_asm) hb2'); (have T' := Top.keeps (by k_asm) hb2'); (try k_sweep)) | ((with_reducible intro hv' ho' h' tk' kk'); (have F' := fr_keepAll (by k_asm) kk'); (have N' := news_keepAll (by k_asm) kk'); (try k_sweep)) | ((with_reducible intro hv' ho' hk' h' tk' e' R'); (with_reducible replace R' : RaisedH _ _ _ _ _ := R')) | ((with_reducible intro hv' h' tk' e' R'); (with_reducible replace R' : RaisedH _ _ _ _ _ := R'))))
  k_with "gC7 call ref" => (k_here; (try dsimp only [List.nil_append, List.cons_append, List.append_nil]); (with_reducible show wpAny _ _ (call (Value.ref 271) _) _ _ _); k_dflt (refine' spec_remove ?sX ?sT ?sb ?sr ?su ?sh ?sR ?sD ?sA ?sF ?sb2 ?so ?sl ?_ ?_ ?_; (case sb => exact keep_base (by k_asm) (by k_asm)); (case sX => k_asm); (case sT => k_asm); (case sr => k_room); (case su => k_units); (case sh => k_asm); (case sA => exact Around.frames_deeper (by k_asm)); (case sF => exact frames_push (by k_asm) (FramesOk.keep (by k_asm) (by ktr_rel)) (by first | exact rfl | k_asm) rfl); (case sR => exact refs_at3 (by k_asm) (by k_asm) (by k_asm) rfl (by k_asm) (by k_mem) (by k_mem) (by k_mem) (by k_asm) (by k_asm)); (case sD => k_asm); (case sb2 => exact base_frames (by k_asm) rfl (by k_asm) (by k_asm)); (case so => (first | exact resNone | exact resSome | k_asm)); (case sl => (intro _ q; cases q))); (all_goals first | ((with_reducible intro ho' hs' h' tk' o' kk' ed' bd'); (k_dflt (have F' := fr_turn (by k_asm) (by k_asm) (by k_mem) kk')); (k_dflt (have N' := news_turn (by k_asm) (by k_updF) kk' ed')); (try dsimp only at N'); (try k_sweep)) | ((with_reducible intro ho' hs' h' tk' kk'); (with_reducible replace kk' : KeepF _ _ _ := kk')) | ((with_reducible intro ho' h' tk' kk'); (have F' := fr_keepAll (by k_asm) kk'); (have N' := news_keepAll (by k_asm) kk'); (try k_sweep))))
  trivial
set_option maxHeartbeats 4000000 in
theorem spec_setitem {k v : Bts} {t u : Tok} {fs : List Env} {r dg : Addr} {D : DD} (X : (hd.heap_1 w.params).In base) (T : Top p9 lo9 mean mg mb base) (hb : KeepAll base s.heap) (hroom : A.depth + 12 < recursionLimit) (hun : A.units + 120 < cLine) (hhd : A.handled = none) (hR : RefsAt w base fs s.heap r dg D) (hV : ValsOk D) (hD : D.length ≤ 100) (hA : A.frames = some fs) (hfs : FramesOk s.heap fs) (hk : k ∈ names9) (hv : v ∈ vals6) (hC : ColAt base s.heap) (hG : AllBare s.gens)
    (h : v ≠ badV → okName k = true → ∀ h' g' d' tk' o', Keep [dg, 103] s.heap h' → h'.get? dg = some o' → BObj w o' (putB D k v) → ColAt base h' → AllBare g' → Q (Value.none) { s with heap := h', gens := g', drawn := d', toks := tk' })
    (hN : v ≠ badV → okName k = false → ∀ h' tk' e, RaisedH s.heap fs e (.ref 31) h' → E (.ref e) { s with heap := h', toks := tk' })
    (hE : v = badV → ∀ h' tk' e, RaisedH s.heap fs e (.type "ValueError") h' → E (.ref e) { s with heap := h', toks := tk' }) :
    wpAny (model PG w) A (call (.ref 187) [.ref r, .bytes k.toArray t, .bytes v.toArray u]) Q E s := by
  refine wpAny_call ?_
  refine' enter_def (binds := [(Str.ofString "self", Value.ref r), (Str.ofString "name", Value.bytes k.toArray t), (Str.ofString "ref", Value.bytes v.toArray u)]) (X.keeps hb) (T.keeps hb) ?k6 ?k7 ?k8 ?k9 ?kB ?_ ?c2 ?c3 ?c4 ?c5
  case k6 => k_is
  case k7 => k_is
  case k8 => omega
  case k9 => exact BindsTo.of_eq rfl
  case kB => exact locs rfl
  case c2 => exact rfl
  case c3 => exact rfl
  case c4 => exact rfl
  case c5 => decide
  intro L' h' hL F'
  obtain ⟨dx, dp, t1, t2, o, F1, N1, X1, T1, hB, lo, n1, n2, n3, e1, e2, e3, hbg, sp⟩ := hR.open F' X T hb
  clear F'
  (try dsimp only)
  (try k_fold)
  k_steps
  · exact h (by k_asm) (by k_asm) _ _ _ _ _ (refs_turnC (by k_asm) (by k_asm) (by k_mem) (by k_mem) (by k_asm) (by k_asm)) (News.get (by k_asm) (by k_mem)) (by k_asm) (ColAt.at (by k_asm) (News.get (by k_asm) (by k_mem)) (by k_asm)) (by k_asm)
  · exact no_old (by k_asm)
  · exact leave_on hA rfl (hL ▸ fresh_size _) (by ktr_rel) (by k_asm) fun _ R => hN (by k_asm) (by k_asm) _ _ _ R
  · exact leave_on hA rfl (hL ▸ fresh_size _) (by ktr_rel) (by k_asm) fun _ R => hE (by k_asm) _ _ _ R
  · exact leave_on hA rfl (hL ▸ fresh_size _) (by ktr_rel) (by k_asm) fun _ R => hE (by k_asm) _ _ _ R
set_option maxHeartbeats 4000000 in
theorem spec_delitem {k : Bts} {t : Tok} {fs : List Env} {r dg : Addr} {D : DD} (X : (hd.heap_1 w.params).In base) (T : Top p9 lo9 mean mg mb base) (hb : KeepAll base s.heap) (hroom : A.depth + 10 < recursionLimit) (hun : A.units + 100 < cLine) (hhd : A.handled = none) (hR : RefsAt w base fs s.heap r dg D) (hD : D.length ≤ 100) (hA : A.frames = some fs) (hfs : FramesOk s.heap fs) (hbf : ∀ b ∈ frs fs, base.get? b = none)
    (h : (getB D k).isSome = true → ∀ h' tk' o', Keep [dg] s.heap h' → h'.get? dg = some o' → BObj w o' (delB D k) → Q (Value.none) { s with heap := h', toks := tk' })
    (h0 : getB D k = none → ∀ h' tk', KeepF fs s.heap h' → Q Value.none { s with heap := h', toks := tk' }) :
    wpAny (model PG w) A (call (.ref 194) [.ref r, .bytes k.toArray t]) Q E s := by
  refine wpAny_call ?_
  refine' enter_def (binds := [(Str.ofString "self", Value.ref r), (Str.ofString "name", Value.bytes k.toArray t)]) (X.keeps hb) (T.keeps hb) ?k6 ?k7 ?k8 ?k9 ?kB ?_ ?c2 ?c3 ?c4 ?c5
  case k6 => k_is
  case k7 => k_is
  case k8 => omega
  case k9 => exact BindsTo.of_eq rfl
  case kB => exact locs rfl
  case c2 => exact rfl
  case c3 => exact rfl
  case c4 => exact rfl
  case c5 => decide
  intro L' h' hL F'
  obtain ⟨dx, dp, t1, t2, o, F1, N1, X1, T1, hB, lo, n1, n2, n3, e1, e2, e3, hbg, sp⟩ := hR.open F' X T hb
  clear F'
  (try dsimp only)
  (try k_fold)
  k_steps
  · exact h (by k_asm) _ _ _ (refs_turn (by k_asm) (by k_asm) (by k_mem) (by k_mem) (by k_asm) (by k_asm)) (News.get (by k_asm) (by k_mem)) (by k_asm)
  · exact h0 (by k_asm) _ _ (keepF_out (by ktr_rel) (by k_asm) rfl (hL ▸ fresh_size _))
  · exact no_old (by k_asm)
end
end
example : ∀ w A s Q E, TZ w A s Q E → TZ w A s Q E := by intro w A s Q E h; w_top off; first | (walk1; fail) | exact h
section
def gO.siteTag : Unit := ()
open gO
inductive IsExcCls (h : Heap) (C : Addr) : Prop
  | mk (nm : _) (q : _) (N : _) (bs : _) (hdct : _) (sn : _) (sub : _) (ab : _) (col : _) (dd : _) (k0 : _) (k1 : _) (k2 : _) (k3 : _) (k5 : _) (newId : _) (e : h.get? C = some (excClassObj nm q C N bs [.type "Exception", .type "BaseException", .type "object"] hdct sn sub ab col dd k0 k1 k2 k3 k5 newId))
theorem IsExcCls.keeps {h h' : Heap} {C : Addr} (x : IsExcCls h C) (k : KeepAll h h') : IsExcCls h' C := by
  obtain ⟨nm, q, N, bs, hdct, sn, sub, ab, col, dd, k0, k1, k2, k3, k5, newId, e⟩ := x
  exact ⟨nm, q, N, bs, hdct, sn, sub, ab, col, dd, k0, k1, k2, k3, k5, newId, k _ _ e⟩
theorem isExc_of {K : Frag} {h : Heap} {C : Addr} (X : K.In h) {nm q : Str} {N : Addr} {bs : List Value} {hdct : Bool} {sn : List Str} {sub : List Value} {ab : Bool} {col : Option Bool} {dd : Option Addr} {k0 k1 k2 k3 k5 : Option Value} {newId : String}
    (a : K.lookup C = some (excClassObj nm q C N bs [.type "Exception", .type "BaseException", .type "object"] hdct sn sub ab col dd k0 k1 k2 k3 k5 newId)) : IsExcCls h C := ⟨_, _, _, _, _, _, _, _, _, _, _, _, _, _, _, _, X _ _ a⟩
theorem cls31 {P : Params} {h : Heap} (X : (hd.heap_1 P).In h) : IsExcCls h 31 := isExc_of X (by k_is)
theorem cls84 {P : Params} {h : Heap} (X : (hd.heap_1 P).In h) : IsExcCls h 84 := isExc_of X (by k_is)
section
variable {M : Model} {s : Shared} {h₁ : Heap} {fs : List Env} {e C C' : Addr}
theorem match_oo {b : Bool} (R : RaisedH h₁ fs e (.ref C') s.heap) (hC : IsExcCls s.heap C) (hC' : IsExcCls s.heap C') (hb : (Value.ref C' :: [.type "Exception", .type "BaseException", .type "object"]).contains (.ref C) = b) (A' : Around) (E' : Value → Shared → Prop) (Q' : Bool → Shared → Prop) (h : Q' b s) : wpAny M A' (excMatches (.ref e) (.ref C)) Q' E' s := by
  obtain ⟨a0, hfl, hup⟩ := R
  obtain ⟨ob, he, hcls⟩ := hfl.there
  obtain ⟨nm, q, N, bs, hdct, sn, sub, ab, col, dd, k0, k1, k2, k3, k5, newId, hC⟩ := hC
  obtain ⟨nm', q', N', bs', hdct', sn', sub', ab', col', dd', k0', k1', k2', k3', k5', newId', hC'⟩ := hC'
  obtain ⟨hp, g, d, tk, os⟩ := s
  have hcB : (Value.ref C :: [.type "Exception", .type "BaseException", .type "object"]).contains (.type "BaseException") = true := by simp
  have f := tc_notTuple
  unfold excMatches
  repeat (first | (with_reducible refine wpAny_loadPart_at he ?_; rw [hcls]) | with_reducible refine wpAny_loadPart_at hC ?_ | (with_reducible refine wpAny_isSubtype_exc hC ?_; rw [hcB]) | (with_reducible refine wpAny_isSubtype_exc hC' ?_; rw [hb]) | wp_step)
  all_goals (cases b <;> (repeat (first | wp_step)) <;> exact h)
theorem match_bo {X : String} (R : RaisedH h₁ fs e (.type X) s.heap) (hC : IsExcCls s.heap C) (hX : isSubtype (.type X) (.ref C) = pure false) (A' : Around) (E' : Value → Shared → Prop) (Q' : Bool → Shared → Prop) (h : Q' false s) : wpAny M A' (excMatches (.ref e) (.ref C)) Q' E' s := by
  obtain ⟨a0, hfl, hup⟩ := R
  obtain ⟨ob, he, hcls⟩ := hfl.there
  obtain ⟨nm, q, N, bs, hdct, sn, sub, ab, col, dd, k0, k1, k2, k3, k5, newId, hC⟩ := hC
  obtain ⟨hp, g, d, tk, os⟩ := s
  have hcB : (Value.ref C :: [.type "Exception", .type "BaseException", .type "object"]).contains (.type "BaseException") = true := by simp
  have f := tc_notTuple
  unfold excMatches
  repeat (first | (with_reducible refine wpAny_loadPart_at he ?_; rw [hcls]) | with_reducible refine wpAny_loadPart_at hC ?_ | (with_reducible refine wpAny_isSubtype_exc hC ?_; rw [hcB]) | wp_step)
  all_goals exact h
end
theorem sub_type_ref {X : String} {C : Addr} {l : List Value} (h : mroOf (.type X) = pure l) (hl : l.contains (.ref C) = false) : isSubtype (.type X) (.ref C) = pure false := by
  show (mroOf (.type X) >>= fun mro => _) = _
  rw [h]
  simp only [pure_bind]
  show (pure (l.contains (.ref C)) : Sem Bool) = _
  rw [hl]
theorem fn_keep {q : Addr} {h h' : Heap} (x : FnAt q h) (k : KeepAll h h') : FnAt q h' := by
  obtain ⟨a, b, c, d, e⟩ := x
  exact ⟨a, b, c, d, k _ _ e⟩
noncomputable def okCls : List Value := [.ref 31, .ref 84, .type "KeyError", .type "ValueError"]
noncomputable def clsWord : Value → Str
  | .ref 31 => Str.ofString "name"
  | .ref 84 => Str.ofString "loop"
  | .type "KeyError" => Str.ofString "none"
  | _ => Str.ofString "value"
section
variable {p9 : Program} {lo9 : List Str} {w : World} {A : Around} {s : Shared} {base : Heap} {mg mb : Str → Option Value} {mean : ExcName → Option Value} {Q E : Value → Shared → Prop}
set_option maxHeartbeats 8000000 in
theorem spec_done {f9 : Addr} {fs : List Env} {Ret : List Env → Value → Heap → Heap → Prop} {Rais : Value → Prop} (X : (hd.heap_1 w.params).In base) (T : Top p9 lo9 mean mg mb base) (hb : KeepAll base s.heap) (hroom : A.depth + 20 < recursionLimit) (hun : A.units + 200 < cLine) (hhd : A.handled = none) (hA : A.frames = some fs) (hfs : FramesOk s.heap fs) (hbf : ∀ b ∈ frs fs, base.get? b = none)
    (mono : ∀ env L v h0 h h', env.frame = some L → h0.get? L = none → KeepAll h0 h → Ret (env :: fs) v h h' → Ret fs v h0 h') (hRais : ∀ c, Rais c → c ∈ okCls) (hf9 : FnAt f9 s.heap)
    (deed : ∀ (A' : Around) (env : Env) (L : Addr) (s' : Shared) (Q' E' : Value → Shared → Prop), A'.frames = some (env :: fs) → A'.depth ≤ A.depth + 1 → A'.units ≤ A.units + 10 → A'.handled = none → FramesOk s'.heap (env :: fs) → s'.gens = s.gens → s'.os = s.os → (∀ b ∈ frs (env :: fs), base.get? b = none) →
      env.frame = some L → s.heap.get? L = none → KeepAll s.heap s'.heap →
      (∀ v h' g' d' tk', AllBare g' → Ret (env :: fs) v s'.heap h' → Q' v { s' with heap := h', gens := g', drawn := d', toks := tk' }) → (∀ c h' tk' e, Rais c → RaisedH s'.heap (env :: fs) e c h' → E' (.ref e) { s' with heap := h', toks := tk' }) →
      wpAny (model PG w) A' (call (.ref f9) []) Q' E' s')
    (h : ∀ v h' g' d' tk', AllBare g' → Ret fs v s.heap h' → Q v { s with heap := h', gens := g', drawn := d', toks := tk' })
    (hC : ∀ c h' tk' t', Rais c → KeepF fs s.heap h' → Q (.str (clsWord c) t') { s with heap := h', toks := tk' }) :
    wpAny (model PG w) A (call (.ref 346) [.ref f9]) Q E s := by
  refine wpAny_call ?_
  refine' enter_def (binds := [(Str.ofString "deed", Value.ref f9)]) (X.keeps hb) (T.keeps hb) ?k6 ?k7 ?k8 ?k9 ?kB ?_ ?c2 ?c3 ?c4 ?c5
  case k6 => k_is
  case k7 => k_is
  case k8 => omega
  case k9 => exact BindsTo.of_eq rfl
  case kB => exact locs rfl
  case c2 => exact rfl
  case c3 => exact rfl
  case c4 => exact rfl
  case c5 => decide
  intro L' h' hL F'
  have N' : News s.heap L' h' [] := News.nil
  have X' := X.keeps hb
  have T' := T.keeps hb
  (try dsimp only)
  (try k_fold)
  k_steps
  refine callWith_F0 (fn_keep hf9 F'.keep) ?_
  refine deed _ _ L' _ _ _ (Around.frames_deeper hA) (by k_room) (by k_units) hhd (frames_push F' (hfs.keep F'.keep) rfl rfl) rfl rfl (base_frames F' rfl hb hbf) rfl (hL ▸ fresh_size _) F'.keep (fun v h5 g5 d5 tk5 ag5 hr => ?_) (fun c h5 tk5 e hr R => ?_)
  · exact h v _ _ _ _ ag5 (mono _ L' v _ _ _ rfl (hL ▸ fresh_size _) F'.keep hr)
  · refine looks_on (Around.frames_deeper hA) rfl R fun h6 R6 => ?_
    obtain ⟨F4, -, hb4, -⟩ := caught_open (H := []) R6 rfl hL F' News.nil hfs hb hbf (by simp) (by simp) (by simp)
    have hc : c = .ref 31 ∨ c = .ref 84 ∨ c = .type "KeyError" ∨ c = .type "ValueError" := by simpa [okCls] using hRais c hr
    rcases hc with rfl | rfl | rfl | rfl
    · refine clause (c := .ref 31) (b := true) R6 (fun A' E' Q' q => name_K F4 (X.keeps hb4) (topRead_of (T.keeps hb4)) (by k_is) q rfl rfl) (fun A9 E9 Q9 q9 => match_oo R6 ((cls31 X).keeps (keep_base F4 hb4)) ((cls31 X).keeps (keep_base F4 hb4)) (by decide) A9 E9 Q9 q9) (fun _ h7 R7 => ?_) (fun q => by cases q) (by passes_own)
      obtain ⟨F7, N7, hb7, close⟩ := caught_open (H := []) R7 rfl hL F' News.nil hfs hb hbf (by simp) (by simp) (by simp)
      have X7 := X.keeps hb7
      have T7 := T.keeps hb7
      clear F4 hb4 R6 R7 R F' N' X' T'
      k_steps
      exact hC _ _ _ _ hr (close _ _ (by k_asm) (by simp))
    · refine clause (c := .ref 31) (b := false) R6 (fun A' E' Q' q => name_K F4 (X.keeps hb4) (topRead_of (T.keeps hb4)) (by k_is) q rfl rfl) (fun A9 E9 Q9 q9 => match_oo R6 ((cls31 X).keeps (keep_base F4 hb4)) ((cls84 X).keeps (keep_base F4 hb4)) (by decide) A9 E9 Q9 q9) (fun q => by cases q) (fun _ => ?_) (by passes_own)
      refine clause (c := .ref 84) (b := true) R6 (fun A' E' Q' q => name_K F4 (X.keeps hb4) (topRead_of (T.keeps hb4)) (by k_is) q rfl rfl) (fun A9 E9 Q9 q9 => match_oo R6 ((cls84 X).keeps (keep_base F4 hb4)) ((cls84 X).keeps (keep_base F4 hb4)) (by decide) A9 E9 Q9 q9) (fun _ h7 R7 => ?_) (fun q => by cases q) (by passes_own)
      obtain ⟨F7, N7, hb7, close⟩ := caught_open (H := []) R7 rfl hL F' News.nil hfs hb hbf (by simp) (by simp) (by simp)
      have X7 := X.keeps hb7
      have T7 := T.keeps hb7
      clear F4 hb4 R6 R7 R F' N' X' T'
      k_steps
      exact hC _ _ _ _ hr (close _ _ (by k_asm) (by simp))
    · refine clause (c := .ref 31) (b := false) R6 (fun A' E' Q' q => name_K F4 (X.keeps hb4) (topRead_of (T.keeps hb4)) (by k_is) q rfl rfl) (fun A9 E9 Q9 q9 => match_bo R6 ((cls31 X).keeps (keep_base F4 hb4)) (sub_type_ref (l := [.type "KeyError", .type "LookupError", .type "Exception", .type "BaseException", .type "object"]) (by rw [mroOf_type]; kernel_rfl) (by decide)) A9 E9 Q9 q9) (fun q => by cases q) (fun _ => ?_) (by passes_own)
      refine clause (c := .ref 84) (b := false) R6 (fun A' E' Q' q => name_K F4 (X.keeps hb4) (topRead_of (T.keeps hb4)) (by k_is) q rfl rfl) (fun A9 E9 Q9 q9 => match_bo R6 ((cls84 X).keeps (keep_base F4 hb4)) (sub_type_ref (l := [.type "KeyError", .type "LookupError", .type "Exception", .type "BaseException", .type "object"]) (by rw [mroOf_type]; kernel_rfl) (by decide)) A9 E9 Q9 q9) (fun q => by cases q) (fun _ => ?_) (by passes_own)
      refine clause (c := .type "KeyError") (b := true) R6 (fun A' E' Q' q => name_B F4 (X.keeps hb4) (topRead_of (T.keeps hb4)) (by k_is) (by rfl) (by decide) q rfl rfl) (fun A9 E9 Q9 q9 => match_type R6 kr_isExc_KeyError kr_notTuple_KeyError (by rw [isSubtype_type]; kernel_rfl) A9 E9 Q9 q9) (fun _ h7 R7 => ?_) (fun q => by cases q) (by passes_own)
      obtain ⟨F7, N7, hb7, close⟩ := caught_open (H := []) R7 rfl hL F' News.nil hfs hb hbf (by simp) (by simp) (by simp)
      have X7 := X.keeps hb7
      have T7 := T.keeps hb7
      clear F4 hb4 R6 R7 R F' N' X' T'
      k_steps
      exact hC _ _ _ _ hr (close _ _ (by k_asm) (by simp))
    · refine clause (c := .ref 31) (b := false) R6 (fun A' E' Q' q => name_K F4 (X.keeps hb4) (topRead_of (T.keeps hb4)) (by k_is) q rfl rfl) (fun A9 E9 Q9 q9 => match_bo R6 ((cls31 X).keeps (keep_base F4 hb4)) (sub_type_ref (l := [.type "ValueError", .type "Exception", .type "BaseException", .type "object"]) (by rw [mroOf_type]; kernel_rfl) (by decide)) A9 E9 Q9 q9) (fun q => by cases q) (fun _ => ?_) (by passes_own)
      refine clause (c := .ref 84) (b := false) R6 (fun A' E' Q' q => name_K F4 (X.keeps hb4) (topRead_of (T.keeps hb4)) (by k_is) q rfl rfl) (fun A9 E9 Q9 q9 => match_bo R6 ((cls84 X).keeps (keep_base F4 hb4)) (sub_type_ref (l := [.type "ValueError", .type "Exception", .type "BaseException", .type "object"]) (by rw [mroOf_type]; kernel_rfl) (by decide)) A9 E9 Q9 q9) (fun q => by cases q) (fun _ => ?_) (by passes_own)
      refine clause (c := .type "KeyError") (b := false) R6 (fun A' E' Q' q => name_B F4 (X.keeps hb4) (topRead_of (T.keeps hb4)) (by k_is) (by rfl) (by decide) q rfl rfl) (fun A9 E9 Q9 q9 => match_type R6 kr_isExc_KeyError kr_notTuple_KeyError (by rw [isSubtype_type]; kernel_rfl) A9 E9 Q9 q9) (fun q => by cases q) (fun _ => ?_) (by passes_own)
      refine clause (c := .type "ValueError") (b := true) R6 (fun A' E' Q' q => name_B F4 (X.keeps hb4) (topRead_of (T.keeps hb4)) (by k_is) (by rfl) (by decide) q rfl rfl) (fun A9 E9 Q9 q9 => match_type R6 PySem.F.isExc_ValueError PySem.F.notTuple_ValueError (by rw [isSubtype_type]; kernel_rfl) A9 E9 Q9 q9) (fun _ h7 R7 => ?_) (fun q => by cases q) (by passes_own)
      obtain ⟨F7, N7, hb7, close⟩ := caught_open (H := []) R7 rfl hL F' News.nil hfs hb hbf (by simp) (by simp) (by simp)
      have X7 := X.keeps hb7
      have T7 := T.keeps hb7
      clear F4 hb4 R6 R7 R F' N' X' T'
      k_steps
      exact hC _ _ _ _ hr (close _ _ (by k_asm) (by simp))
end
end
example : ∀ w A s Q E, TZ w A s Q E → TZ w A s Q E := by intro w A s Q E h; w_top off; first | (walk1; fail) | exact h
section
def gP.siteTag : Unit := ()
open gP
section
variable {p9 : Program} {lo9 : List Str} {w : World} {A : Around} {s : Shared} {base : Heap} {mg mb : Str → Option Value} {mean : ExcName → Option Value} {Q E : Value → Shared → Prop}
noncomputable def pieces22 : List Bts := [[97], [47], [98], [47, 99], [46], [46, 46], [46, 108, 111, 99, 107], [64], [123], [64, 123], [126], [32], [92], [127], [31], [42], [63], [91], [58], [94], [195, 169], [125]]
set_option maxHeartbeats 4000000 in
theorem spec_names (X : (hd.heap_1 w.params).In base) (T : Top p9 lo9 mean mg mb base) (hb : KeepAll base s.heap) (hroom : A.depth + 2 < recursionLimit) (hun : A.units + 20 < cLine) (hhd : A.handled = none)
    (h : ∀ l vs cnt h' tk', BytesAre vs names9 → KeepAll s.heap h' → h'.get? l = some (W.listOf vs.toArray cnt) → s.heap.get? l = none → Q (.ref l) { s with heap := h', toks := tk' }) :
    wpAny (model PG w) A (call (.ref 290) []) Q E s := by
  refine wpAny_call ?_
  refine' enter_def (binds := []) (X.keeps hb) (T.keeps hb) ?k6 ?k7 ?k8 ?k9 ?kB ?_ ?c2 ?c3 ?c4 ?c5
  case k6 => k_is
  case k7 => k_is
  case k8 => omega
  case k9 => exact BindsTo.of_eq rfl
  case kB => exact locs rfl
  case c2 => exact rfl
  case c3 => exact rfl
  case c4 => exact rfl
  case c5 => decide
  intro L' h' hL F'
  have N' : News s.heap L' h' [] := News.nil
  have X' := X.keeps hb
  have T' := T.keeps hb
  clear X T
  (try dsimp only)
  (try k_fold)
  k_steps
  refine h _ _ _ _ _ ?b (Fr.keep (by k_asm)) (News.get (by k_asm) (by k_mem)) (News.fresh (by k_asm) (by k_mem))
  case b => (unfold names9; repeat (first | exact BytesAre.nil | refine BytesAre.cons _ _ ?_))
set_option maxHeartbeats 4000000 in
theorem spec_values (X : (hd.heap_1 w.params).In base) (T : Top p9 lo9 mean mg mb base) (hb : KeepAll base s.heap) (hroom : A.depth + 2 < recursionLimit) (hun : A.units + 20 < cLine) (hhd : A.handled = none)
    (h : ∀ l vs cnt h' tk', BytesAre vs vals6 → KeepAll s.heap h' → h'.get? l = some (W.listOf vs.toArray cnt) → s.heap.get? l = none → Q (.ref l) { s with heap := h', toks := tk' }) :
    wpAny (model PG w) A (call (.ref 297) []) Q E s := by
  refine wpAny_call ?_
  refine' enter_def (binds := []) (X.keeps hb) (T.keeps hb) ?k6 ?k7 ?k8 ?k9 ?kB ?_ ?c2 ?c3 ?c4 ?c5
  case k6 => k_is
  case k7 => k_is
  case k8 => omega
  case k9 => exact BindsTo.of_eq rfl
  case kB => exact locs rfl
  case c2 => exact rfl
  case c3 => exact rfl
  case c4 => exact rfl
  case c5 => decide
  intro L' h' hL F'
  have N' : News s.heap L' h' [] := News.nil
  have X' := X.keeps hb
  have T' := T.keeps hb
  clear X T
  (try dsimp only)
  (try k_fold)
  k_steps
  refine h _ _ _ _ _ ?b (Fr.keep (by k_asm)) (News.get (by k_asm) (by k_mem)) (News.fresh (by k_asm) (by k_mem))
  case b => (unfold vals6; repeat (first | exact BytesAre.nil | refine BytesAre.cons _ _ ?_))
set_option maxHeartbeats 4000000 in
theorem spec_pieces (X : (hd.heap_1 w.params).In base) (T : Top p9 lo9 mean mg mb base) (hb : KeepAll base s.heap) (hroom : A.depth + 2 < recursionLimit) (hun : A.units + 20 < cLine) (hhd : A.handled = none)
    (h : ∀ l vs cnt h' tk', BytesAre vs pieces22 → KeepAll s.heap h' → h'.get? l = some (W.listOf vs.toArray cnt) → s.heap.get? l = none → Q (.ref l) { s with heap := h', toks := tk' }) :
    wpAny (model PG w) A (call (.ref 311) []) Q E s := by
  refine wpAny_call ?_
  refine' enter_def (binds := []) (X.keeps hb) (T.keeps hb) ?k6 ?k7 ?k8 ?k9 ?kB ?_ ?c2 ?c3 ?c4 ?c5
  case k6 => k_is
  case k7 => k_is
  case k8 => omega
  case k9 => exact BindsTo.of_eq rfl
  case kB => exact locs rfl
  case c2 => exact rfl
  case c3 => exact rfl
  case c4 => exact rfl
  case c5 => decide
  intro L' h' hL F'
  have N' : News s.heap L' h' [] := News.nil
  have X' := X.keeps hb
  have T' := T.keeps hb
  clear X T
  (try dsimp only)
  (try k_fold)
  k_steps
  refine h _ _ _ _ _ ?b (Fr.keep (by k_asm)) (News.get (by k_asm) (by k_mem)) (News.fresh (by k_asm) (by k_mem))
  case b => (unfold pieces22; repeat (first | exact BytesAre.nil | refine BytesAre.cons _ _ ?_))
inductive OldsAre : List Value → List (Option Bts) → Prop
  | nil : OldsAre [] []
  | cons (o : Option Bts) (v : Value) {vs : List Value} {os : List (Option Bts)} : ResIs o v → OldsAre vs os → OldsAre (v :: vs) (o :: os)
set_option maxHeartbeats 4000000 in
theorem spec_olds (X : (hd.heap_1 w.params).In base) (T : Top p9 lo9 mean mg mb base) (hb : KeepAll base s.heap) (hroom : A.depth + 2 < recursionLimit) (hun : A.units + 20 < cLine) (hhd : A.handled = none)
    (h : ∀ l vs cnt h' tk', OldsAre vs olds4 → KeepAll s.heap h' → h'.get? l = some (W.listOf vs.toArray cnt) → s.heap.get? l = none → Q (.ref l) { s with heap := h', toks := tk' }) :
    wpAny (model PG w) A (call (.ref 304) []) Q E s := by
  refine wpAny_call ?_
  refine' enter_def (binds := []) (X.keeps hb) (T.keeps hb) ?k6 ?k7 ?k8 ?k9 ?kB ?_ ?c2 ?c3 ?c4 ?c5
  case k6 => k_is
  case k7 => k_is
  case k8 => omega
  case k9 => exact BindsTo.of_eq rfl
  case kB => exact locs rfl
  case c2 => exact rfl
  case c3 => exact rfl
  case c4 => exact rfl
  case c5 => decide
  intro L' h' hL F'
  have N' : News s.heap L' h' [] := News.nil
  have X' := X.keeps hb
  have T' := T.keeps hb
  clear X T
  (try dsimp only)
  (try k_fold)
  k_steps
  refine h _ _ _ _ _ ?b (Fr.keep (by k_asm)) (News.get (by k_asm) (by k_mem)) (News.fresh (by k_asm) (by k_mem))
  case b => exact .cons _ _ resNone (.cons _ _ resSome (.cons _ _ resSome (.cons _ _ resSome .nil)))
example : True := by
  k_with "gP call ref" => (k_here; (try dsimp only [List.nil_append, List.cons_append, List.append_nil]); (with_reducible show wpAny _ _ (call (Value.ref 187) _) _ _ _); k_dflt (refine' spec_setitem ?sX ?sT ?sb ?sr ?su ?sh ?sR ?sV ?sD ?sA ?sF ?sk ?sv ?sC ?sG ?_ ?_ ?_; (case sb => exact keep_base (by k_asm) (by k_asm)); (case sX => k_asm); (case sT => k_asm); (case sr => k_room); (case su => k_units); (case sh => k_asm); (case sA => exact Around.frames_deeper (by k_asm)); (case sF => exact frames_push (by k_asm) (FramesOk.keep (by k_asm) (by ktr_rel)) (by first | exact rfl | k_asm) rfl); (case sR => exact refs_at3 (by k_asm) (by k_asm) (by k_asm) rfl (by k_asm) (by k_mem) (by k_mem) (by k_mem) (by k_asm) (by k_asm)); (case sV => k_asm); (case sD => k_asm); (case sk => k_asm); (case sv => k_asm); (case sC => exact ColAt.keep (by k_asm) (by ktr_rel)); (case sG => k_asm)); (all_goals first | ((have hc9 := ColAt.keep (by k_asm) (by ktr_rel)); (with_reducible intro hv' hk' h' g' d' tk' o' kk' ed' bd' cc' ag'); (have off9 := ColAt.off hc9 (by k_asm) (by (repeat' (first | exact all_nil | (with_reducible refine all_cons ?_ ?_))); (all_goals first | exact bobj_cls (by k_asm) | (intro q9; cases q9; done)))); (have ne9 := offAll off9); (simp only [AllNe, and_true] at ne9); (obtain ⟨ps', et', tr'⟩ := id (ColAt.tab cc')); (have hb2' := base_col cc' (by k_asm)); (k_dflt (have N' := news_col2 (by k_asm) (by k_asm) (by k_updF) (by k_asm) cc' kk' ed' off9 et')); (try dsimp only at N'); (k_dflt (have F' := fr_col2 (by k_asm) (by k_asm) (by k_mem) (by k_asm) cc' kk')); (have X' := Frag.In.keeps (by k_asm) hb2'); (have T' := Top.keeps (by k_asm) hb2'); (try k_sweep)) | ((with_reducible intro hv' hk' h' tk' e' R'); (with_reducible replace R' : RaisedH _ _ _ _ _ := R')) | ((with_reducible intro hv' h' tk' e' R'); (with_reducible replace R' : RaisedH _ _ _ _ _ := R'))))
  trivial
set_option maxHeartbeats 4000000 in
theorem spec_put {k v : Bts} {t u : Tok} {fs : List Env} {r dg : Addr} {D : DD} (X : (hd.heap_1 w.params).In base) (T : Top p9 lo9 mean mg mb base) (hb : KeepAll base s.heap) (hroom : A.depth + 14 < recursionLimit) (hun : A.units + 140 < cLine) (hhd : A.handled = none) (hR : RefsAt w base fs s.heap r dg D) (hV : ValsOk D) (hD : D.length ≤ 100) (hA : A.frames = some fs) (hfs : FramesOk s.heap fs) (hk : k ∈ names9) (hv : v ∈ vals6) (hC : ColAt base s.heap) (hG : AllBare s.gens)
    (h : v ≠ badV → okName k = true → ∀ h' g' d' tk' o', Keep [dg, 103] s.heap h' → h'.get? dg = some o' → BObj w o' (putB D k v) → ColAt base h' → AllBare g' → Q (Value.none) { s with heap := h', gens := g', drawn := d', toks := tk' })
    (hN : v ≠ badV → okName k = false → ∀ h' tk' e, RaisedH s.heap fs e (.ref 31) h' → E (.ref e) { s with heap := h', toks := tk' })
    (hE : v = badV → ∀ h' tk' e, RaisedH s.heap fs e (.type "ValueError") h' → E (.ref e) { s with heap := h', toks := tk' }) :
    wpAny (model PG w) A (call (.ref 339) [.ref r, .bytes k.toArray t, .bytes v.toArray u]) Q E s := by
  refine wpAny_call ?_
  refine' enter_def (binds := [(Str.ofString "refs", Value.ref r), (Str.ofString "spot", Value.bytes k.toArray t), (Str.ofString "fresh", Value.bytes v.toArray u)]) (X.keeps hb) (T.keeps hb) ?k6 ?k7 ?k8 ?k9 ?kB ?_ ?c2 ?c3 ?c4 ?c5
  case k6 => k_is
  case k7 => k_is
  case k8 => omega
  case k9 => exact BindsTo.of_eq rfl
  case kB => exact locs rfl
  case c2 => exact rfl
  case c3 => exact rfl
  case c4 => exact rfl
  case c5 => decide
  intro L' h' hL F'
  obtain ⟨dx, dp, t1, t2, o, F1, N1, X1, T1, hB, lo, n1, n2, n3, e1, e2, e3, hbg, sp⟩ := hR.open F' X T hb
  clear F'
  (try dsimp only)
  (try k_fold)
  k_steps
  · exact h (by k_asm) (by k_asm) _ _ _ _ _ (refs_turnC (by k_asm) (by k_asm) (by k_mem) (by k_mem) (by k_asm) (by k_asm)) (News.get (by k_asm) (by k_mem)) (by k_asm) (ColAt.at (by k_asm) (News.get (by k_asm) (by k_mem)) (by k_asm)) (by k_asm)
  · exact leave_on hA rfl (hL ▸ fresh_size _) (by ktr_rel) (by k_asm) fun _ R => hN (by k_asm) (by k_asm) _ _ _ R
  · exact leave_on hA rfl (hL ▸ fresh_size _) (by ktr_rel) (by k_asm) fun _ R => hE (by k_asm) _ _ _ R
end
end
example : ∀ w A s Q E, TZ w A s Q E → TZ w A s Q E := by intro w A s Q E h; w_top off; first | (walk1; fail) | exact h
section
open PySem.SeqAt
section
variable {w : World} {A : Around} {E : Value → Shared → Prop} {s : Shared}
theorem eqAt_bytes {a b : Bts} {t u : Tok} : EqAt A s (.bytes a.toArray t) (.bytes b.toArray u) (decide (a = b)) := fun prog w E Q h => eqBool_bytes (by simpa using h)
noncomputable def isB (k : Bts) : Value → Bool
  | .bytes i _ => decide (i.toList = k)
  | _ => false
theorem any_isB (k : Bts) : ∀ {vs : List Value} {ps : List Bts}, BytesAre vs ps → vs.any (isB k) = ps.contains k
  | _, _, .nil => rfl
  | _, _, .cons p t h => by
    simp only [List.any_cons, isB, any_isB k h, List.contains_cons]
    congr 1
    rw [Bool.eq_iff_iff]; simp; exact eq_comm
theorem eq_isB (k : Bts) (t : Tok) : ∀ {vs : List Value} {ps : List Bts}, BytesAre vs ps → ∀ y, y ∈ vs → EqAt A s y (.bytes k.toArray t) (isB k y)
  | _, _, .nil, _, hy => nomatch hy
  | _, _, .cons p u h, y, hy => by
    rcases List.mem_cons.mp hy with rfl | hy
    · exact eqAt_bytes
    · exact eq_isB k t h y hy
theorem in_B {l : Addr} {vs : List Value} {ps : List Bts} {k : Bts} {t : Tok} {Q : Value → Shared → Prop} (hl : s.heap.IsList l vs.toArray) (hi : BytesAre vs ps) (h : Q (.bool (ps.contains k)) s) : wpAny (model PG w) A (compareOp .In (.bytes k.toArray t) (.ref l)) Q E s :=
  in_listAt (isB k) hl (fun y hy => eq_isB k t hi y (by simpa using hy)) (by rw [← Array.any_toList, show vs.toArray.toList = vs from rfl, any_isB k hi]; exact h)
theorem item_B {l : Addr} {vs : List Value} {ps : List Bts} {k : Int} {t : Tok} {p : Bts} {Q : Value → Shared → Prop} {value slice : PySem.Expr} (hl : s.heap.IsList l vs.toArray) (hi : BytesAre vs ps) (h0 : 0 ≤ k) (hk : k < 1000000) (hp : ps[k.toNat]? = some p)
    (h : ∀ t', Q (.bytes p.toArray t') s) (hs : subscripted slice false (.ref l) (.int k t) = operate [.ref l, .int k t] (getItem (.ref l) (.int k t)) := by with_unfolding_all rfl) : wpAny (model PG w) A (subscriptTail value slice (.ref l) (.int k t)) Q E s := by
  have hlt : k.toNat < vs.length := by
    rw [hi.length]
    exact (List.getElem?_eq_some_iff.mp hp).1
  obtain ⟨p', t', e1, e2⟩ := hi.get (List.getElem?_eq_getElem hlt)
  rw [hp] at e1
  cases e1
  exact tail_any hl.typeIs slot_list_getitem.lookup (wpAny_getItem_list hl h0 (Int.lt_of_lt_of_le hk (by decide)) (by simp [hlt]; exact e2) (h t')) hs
theorem bytes_drop : ∀ (n : Nat) {vs : List Value} {ps : List Bts}, BytesAre vs ps → BytesAre (vs.drop n) (ps.drop n)
  | 0, _, _, h => h
  | n + 1, _, _, .nil => .nil
  | n + 1, _, _, .cons p t h => bytes_drop n h
theorem slice_B {h₀ : Heap} {L l : Addr} {m : Str → Option Value} {news : List (Addr × Obj)} {value slice : PySem.Expr} {vs : List Value} {ps : List Bts} {k : Int} {tk : Tok} {Q : Value → Shared → Prop} (F : Fr h₀ L s.heap m) (N : News h₀ L s.heap news) (hl : s.heap.IsList l vs.toArray) (hi : BytesAre vs ps) (h0 : 0 ≤ k) (hz : ps.length ≤ 1000000)
    (h : ∀ D ws h', Fr h₀ L h' m → News h₀ L h' ((D, W.listOf ws.toArray 0) :: news) → BytesAre ws (ps.drop k.toNat) → (∀ p ∈ news, p.1 < D) → Q (.ref D) { s with heap := h' })
    (hs : subscripted slice false (.ref l) (.ref s.heap.objs.size) = operate [.ref s.heap.objs.size, .ref l] (getItem (.ref l) (.ref s.heap.objs.size)) := by with_unfolding_all rfl) (ht : ∀ r, letTemporaryGo value (.ref l) r = pure () := by intro _; with_unfolding_all rfl) :
    wpAny (model PG w) A (subscriptTail value slice (.ref l) (.ref s.heap.objs.size)) Q E { s with heap := s.heap.push { cls := .type "slice", data := .fields #[.int k tk, .none, .none] } } := by
  refine kms_slice_lit (lo := some k) (hi := none) (zs := vs.drop k.toNat) F N hl (by constructor) (by constructor) ?_ (fun D h' F' N' l1 => h D _ h' F' N' (bytes_drop _ hi) l1) hs ht (by simp only [List.size_toArray]; rw [hi.length, sizeLine_eq]; omega)
  show ((vs.drop (if k < 0 then vs.length - (-k).toNat else min k.toNat vs.length)).take (vs.length - (if k < 0 then vs.length - (-k).toNat else min k.toNat vs.length))) = vs.drop k.toNat
  rw [if_neg (by omega)]
  by_cases q : k.toNat ≤ vs.length
  · rw [Nat.min_eq_left q]
    exact List.take_of_length_le (by simp)
  · rw [Nat.min_eq_right (by omega), List.drop_eq_nil_of_le (Nat.le_refl _), List.drop_eq_nil_of_le (by omega)]; exact List.take_nil
end
noncomputable def DictAt (w : World) (base h : Heap) (d : Addr) (D : DD) : Prop := ∃ o, h.get? d = some o ∧ BObj w o D ∧ base.get? d = none ∧ (d == sysModules) = false
theorem DictAt.open {w : World} {base h h₁ : Heap} {d L : Addr} {D : DD} {m : Str → Option Value} {K : Frag} {mg mb : Str → Option Value} {p : Program} {loose : List Str} {mean : ExcName → Option Value} (R : DictAt w base h d D) (F : Fr h L h₁ m) (X : K.In base) (T : Top p loose mean mg mb base) (hb : KeepAll base h) :
    ∃ o, Fr (hideAll h [d]) L h₁ m ∧ News (hideAll h [d]) L h₁ [(d, o)] ∧ K.In (hideAll h [d]) ∧ Top p loose mean mg mb (hideAll h [d]) ∧ BObj w o D ∧ (d == sysModules) = false ∧ h.get? d = some o ∧ KeepAll base (hideAll h [d]) := by
  obtain ⟨o, a, b, c, lo⟩ := R
  have hk : KeepAll base (hideAll h [d]) := fun b' o' e => hideAll_get _ (hb b' o' e) fun hm => by rw [List.mem_singleton.mp hm, c] at e; cases e
  refine ⟨o, fr_hide _ F, fun p hp => ?_, X.keeps hk, T.keeps hk, b, lo, a, hk⟩
  rw [List.mem_singleton.mp hp]
  exact ⟨F.keep _ _ a, fun q => absurd (Nat.lt_of_lt_of_le (Heap.lt_size a) F.above) (q ▸ Nat.lt_irrefl _), hideAll_none _ (.head _)⟩
theorem dict_keep {h h₁ g : Heap} {d L : Addr} {m : Str → Option Value} {news : List (Addr × Obj)} {o : Obj} (F : Fr (hideAll h [d]) L h₁ m) (N : News g L h₁ news) (m1 : (d, o) ∈ news) (e1 : h.get? d = some o) : KeepAll h h₁ := fun b ob e => by
  by_cases h1 : b = d
  · subst h1; rw [e1] at e; cases e; exact (N _ m1).1
  · exact F.keep b ob (hideAll_get _ e fun hm => h1 (List.mem_singleton.mp hm))
theorem dict_turn {h h₁ : Heap} {d L : Addr} {m : Str → Option Value} (F : Fr (hideAll h [d]) L h₁ m) : Keep [d] h h₁ := fun b ob n e => F.keep b ob (hideAll_get _ e n)
end
example : ∀ w A s Q E, TZ w A s Q E → TZ w A s Q E := by intro w A s Q E h; w_top off; first | (walk1; fail) | exact h
section
def gR.siteTag : Unit := ()
open gR
section
variable {p9 : Program} {lo9 : List Str} {w : World} {A : Around} {s : Shared} {base : Heap} {mg mb : Str → Option Value} {mean : ExcName → Option Value} {Q E : Value → Shared → Prop}
example : True := by
  k_with "gR ktr_rel" => (exact dict_keep (by k_asm) (by k_asm) (by k_mem) (by k_asm))
  k_with "gR subscriptTail" => (k_here; (with_reducible show wpAny _ _ (subscriptTail _ _ (Value.ref _) (Value.int _ _)) _ _ _); k_dflt (refine' item_B (News.isList (by k_asm) (by k_mem)) (by k_asm) ?i0 ?i1 ?ip ?_; (case i0 => first | decide | omega); (case i1 => first | decide | omega); (case ip => first | assumption | rfl)); intro t')
  k_with "gR subscriptTail" => (k_here; (with_reducible show wpAny _ _ (subscriptTail _ (Expr.Slice _ none none _) (Value.ref _) (Value.ref _)) _ _ _); (with_reducible rename Fr _ _ _ _ => F'); (with_reducible rename News _ _ _ _ => N'); k_dflt (refine' slice_B (s := ⟨_, _, _, _, _⟩) F' N' (News.isList (by k_asm) (by k_mem)) (by k_asm) (by decide) (by decide) ?_); intro D' ws' h' F' N' hb' l1; (try k_lt l1); (try k_sweep))
  k_with "gR compareOp In bytes ref" => (k_here; k_dflt (refine' in_B (News.isList (by k_asm) (by k_mem)) (by k_asm) ?_))
  k_with "gR call ref" => (k_here; (try dsimp only [List.nil_append, List.cons_append, List.append_nil]); (with_reducible show wpAny _ _ (call (Value.ref 290) _) _ _ _); k_dflt (refine' spec_names ?sX ?sT ?sb ?sr ?su ?sh ?_; (case sb => exact keep_base (by k_asm) (by k_asm)); (case sX => k_asm); (case sT => k_asm); (case sr => k_room); (case su => k_units); (case sh => k_asm)); (all_goals first | ((with_reducible intro l' vs' c' h' tk' hb' kk' eL' nL'); (k_dflt (have neL := allNe (by k_asm) (by k_asm) nL')); (simp only [AllNe, and_true] at neL); (k_dflt (have N' := news_more (by k_asm) (news_keepAll (by k_asm) kk') eL' nL')); (k_dflt (have F' := fr_keepAll (by k_asm) kk')); (try k_sweep))))
  k_with "gR call ref" => (k_here; (try dsimp only [List.nil_append, List.cons_append, List.append_nil]); (with_reducible show wpAny _ _ (call (Value.ref 297) _) _ _ _); k_dflt (refine' spec_values ?sX ?sT ?sb ?sr ?su ?sh ?_; (case sb => exact keep_base (by k_asm) (by k_asm)); (case sX => k_asm); (case sT => k_asm); (case sr => k_room); (case su => k_units); (case sh => k_asm)); (all_goals first | ((with_reducible intro l' vs' c' h' tk' hb' kk' eL' nL'); (k_dflt (have neL := allNe (by k_asm) (by k_asm) nL')); (simp only [AllNe, and_true] at neL); (k_dflt (have N' := news_more (by k_asm) (news_keepAll (by k_asm) kk') eL' nL')); (k_dflt (have F' := fr_keepAll (by k_asm) kk')); (try k_sweep))))
  k_with "gR call ref" => (k_here; (try dsimp only [List.nil_append, List.cons_append, List.append_nil]); (with_reducible show wpAny _ _ (call (Value.ref 304) _) _ _ _); k_dflt (refine' spec_olds ?sX ?sT ?sb ?sr ?su ?sh ?_; (case sb => exact keep_base (by k_asm) (by k_asm)); (case sX => k_asm); (case sT => k_asm); (case sr => k_room); (case su => k_units); (case sh => k_asm)); (all_goals first | ((with_reducible intro l' vs' c' h' tk' hb' kk' eL' nL'); (k_dflt (have neL := allNe (by k_asm) (by k_asm) nL')); (simp only [AllNe, and_true] at neL); (k_dflt (have N' := news_more (by k_asm) (news_keepAll (by k_asm) kk') eL' nL')); (k_dflt (have F' := fr_keepAll (by k_asm) kk')); (try k_sweep))))
  trivial
set_option maxHeartbeats 4000000 in
theorem spec_lset {dg : Addr} {D : DD} {k v : Bts} {t u : Tok} {old : Option Bts} {ov : Value} (X : (hd.heap_1 w.params).In base) (T : Top p9 lo9 mean mg mb base) (hb : KeepAll base s.heap) (hroom : A.depth + 4 < recursionLimit) (hun : A.units + 40 < cLine) (hhd : A.handled = none) (hR : DictAt w base s.heap dg D) (hD : D.length ≤ 100) (ho : ResIs old ov)
    (h : v ≠ badV → (∀ b, old = some b → (getB D k).getD zeroV = b) → (names9.drop 6).contains k = false → ∀ h' tk' o', Keep [dg] s.heap h' → h'.get? dg = some o' → BObj w o' (putB D k v) → Q (.bool true) { s with heap := h', toks := tk' })
    (hF : v ≠ badV → (∃ b, old = some b ∧ (getB D k).getD zeroV ≠ b) → ∀ h' tk', KeepAll s.heap h' → Q (.bool false) { s with heap := h', toks := tk' })
    (hN : v ≠ badV → (∀ b, old = some b → (getB D k).getD zeroV = b) → (names9.drop 6).contains k = true → ∀ t', ∀ h' tk', KeepAll s.heap h' → Q (.str (Str.ofString "name") t') { s with heap := h', toks := tk' })
    (hE : v = badV → ∀ t', ∀ h' tk', KeepAll s.heap h' → Q (.str (Str.ofString "value") t') { s with heap := h', toks := tk' }) :
    wpAny (model PG w) A (call (.ref 332) [.ref dg, .bytes k.toArray t, ov, .bytes v.toArray u]) Q E s := by
  refine wpAny_call ?_
  refine' enter_def (binds := [(Str.ofString "held", Value.ref dg), (Str.ofString "spot", Value.bytes k.toArray t), (Str.ofString "old", ov), (Str.ofString "fresh", Value.bytes v.toArray u)]) (X.keeps hb) (T.keeps hb) ?k6 ?k7 ?k8 ?k9 ?kB ?_ ?c2 ?c3 ?c4 ?c5
  case k6 => k_is
  case k7 => k_is
  case k8 => omega
  case k9 => exact BindsTo.of_eq rfl
  case kB => exact locs rfl
  case c2 => exact rfl
  case c3 => exact rfl
  case c4 => exact rfl
  case c5 => decide
  intro L' h' hL F'
  obtain ⟨o, F1, N1, X1, T1, hB, lo, e1, hbg⟩ := hR.open F' X T hb
  clear F'
  (try dsimp only)
  (try k_fold)
  cases old with
  | none =>
    obtain rfl : ov = .none := ho
    k_steps
    · exact hE (eq_of_beq (by k_asm)) _ _ _ (by ktr_rel)
    · exact hN (fun q => ne_of_beq_false (by k_asm) q) old_none (by k_asm) _ _ _ (by ktr_rel)
    · exact h (fun q => ne_of_beq_false (by k_asm) q) old_none (by k_asm) _ _ _ (dict_turn (by k_asm)) (News.get (by k_asm) (by k_mem)) (by k_asm)
  | some b =>
    obtain ⟨tb, rfl⟩ := ho
    k_steps
    · exact hE (eq_of_beq (by k_asm)) _ _ _ (by ktr_rel)
    · exact hF (fun q => ne_of_beq_false (by k_asm) q) ⟨_, rfl, ne_of_bne (by k_asm)⟩ _ _ (by ktr_rel)
    · exact hN (fun q => ne_of_beq_false (by k_asm) q) (old_of (eq_of_bne (by k_asm))) (by k_asm) _ _ _ (by ktr_rel)
    · exact h (fun q => ne_of_beq_false (by k_asm) q) (old_of (eq_of_bne (by k_asm))) (by k_asm) _ _ _ (dict_turn (by k_asm)) (News.get (by k_asm) (by k_mem)) (by k_asm)
end
end
example : ∀ w A s Q E, TZ w A s Q E → TZ w A s Q E := by intro w A s Q E h; w_top off; first | (walk1; fail) | exact h
section
theorem iter_stop {M : Model} {A : Around} {v : Value} {Q : Value → Shared → Prop} {E : Value → Shared → Prop} {s : Shared} (h : Stop (wpAny M A (pyIter v) Q E s)) : wpAny M A (pyIter v) Q E s := h
section
variable {prog : Program} {w : World} {A : Around} {E : Value → Shared → Prop} {s : Shared} {env : Env} {h₀ : Heap} {x : Str} {body : List Stmt} {Q : Flow → Shared → Prop} {I : Addr} {a : Int} {n : Nat}
theorem range_ind (J : Nat → (Str → Option Value) → List (Addr × Obj) → Prop) (step : ∀ k i m news, J i m news → i + (k + 1) = n → (∀ m' news', J (i + 1) m' news' → RangeRest prog w A E h₀ env x body Q s I a n k (i + 1) m' news') → RangeRest prog w A E h₀ env x body Q s I a n (k + 1) i m news)
    (done : ∀ m news, J n m news → RangeRest prog w A E h₀ env x body Q s I a n 0 n m news) {m : Str → Option Value} {news : List (Addr × Obj)} (h0 : J 0 m news) : RangeRest prog w A E h₀ env x body Q s I a n n 0 m news := by
  have : ∀ k i m news, J i m news → i + k = n → RangeRest prog w A E h₀ env x body Q s I a n k i m news := fun k => by
    induction k with
    | zero => intro i m news hJ hk; obtain rfl : i = n := by omega
              exact done m news hJ
    | succ k ih => exact fun i m news hJ hk => step k i m news hJ hk fun m' news' h' => ih (i + 1) m' news' h' (by omega)
  exact this n 0 m news h0 (by omega)
end
theorem hide1 {h : Heap} {d b : Addr} (n : (hideAll h [d]).get? b = none) (h1 : d < b) : h.get? b = none := by
  cases q : h.get? b with
  | none => rfl
  | some o => rw [hideAll_get [d] q (fun hm => Nat.ne_of_gt h1 (List.mem_singleton.mp hm))] at n; cases n
noncomputable def glue (pre : List Bts) (x : Option (List Bts × Option Bts)) : Option (List Bts × Option Bts) := x.map fun p => (pre ++ p.1, p.2)
theorem glue_nil (x : Option (List Bts × Option Bts)) : glue [] x = x := by cases x <;> simp [glue]
theorem take5 (v : Bts) : (v.take 5 == rp) = isRef v := by
  unfold isRef
  rw [Bool.eq_iff_iff, beq_iff_eq, List.isPrefixOf_iff_prefix, List.prefix_iff_eq_take]
  exact eq_comm
theorem take5_ne (v : Bts) : (v.take 5 != rp) = !isRef v := by rw [← take5]; rfl
theorem glue_none {D : DD} {f : Nat} {pre : List Bts} {c : Bts} (h : getB D c = none) : glue pre (followD D (f + 1) c) = some (pre ++ [c], none) := by simp [glue, followD, h]
theorem glue_out {D : DD} {pre : List Bts} {c v : Bts} (h : getB D c = some v) : glue pre (followD D 1 c) = none := by simp [glue, followD, h]
theorem glue_end {D : DD} {f : Nat} {pre : List Bts} {c v : Bts} (h : getB D c = some v) (hr : isRef v = false) : glue pre (followD D (f + 2) c) = some (pre ++ [c], some v) := by simp [glue, followD, h, hr]
theorem glue_step {D : DD} {f : Nat} {pre : List Bts} {c v : Bts} (h : getB D c = some v) (hr : isRef v = true) : glue pre (followD D (f + 2) c) = glue (pre ++ [c]) (followD D (f + 1) (v.drop 5)) := by
  rw [followD, h]
  simp [glue, hr, Option.map_map, Function.comp_def]
theorem sl5_take (v : Bts) : sliceB v none (some 5) = v.take 5 := sliceB_to v 5
theorem sl5_drop (v : Bts) : sliceB v (some 5) none = v.drop 5 := sliceB_from v 5
theorem ref_of {v : Bts} (h : (sliceB v none (some 5) != [114, 101, 102, 58, 32]) = false) : isRef v = true := by
  rw [sl5_take, take5_ne] at h; simpa using h
theorem nref_of {v : Bts} (h : (sliceB v none (some 5) != [114, 101, 102, 58, 32]) = true) : isRef v = false := by
  rw [sl5_take, take5_ne] at h; simpa using h
theorem last_B {w : World} {A : Around} {E : Value → Shared → Prop} {s : Shared} {l : Addr} {vs : List Value} {c : Bts} {t tc : Tok} {Q : Value → Shared → Prop} {value slice : PySem.Expr} (hl : s.heap.IsList l (vs ++ [Value.bytes c.toArray tc]).toArray)
    (h : Q (.bytes c.toArray tc) s) (hs : subscripted slice false (.ref l) (.int (-1) t) = operate [.ref l, .int (-1) t] (getItem (.ref l) (.int (-1) t)) := by with_unfolding_all rfl) : wpAny (model PG w) A (subscriptTail value slice (.ref l) (.int (-1) t)) Q E s := by
  refine tail_any hl.typeIs slot_list_getitem.lookup (wpAny_getItem_list_neg hl (by decide) (by simp; omega) (by decide) ?_ h) hs
  have : ((-1 : Int) + ((vs ++ [Value.bytes c.toArray tc]).toArray.size : Nat)).toNat = vs.length := by simp; omega
  rw [this]; simp
def gS.siteTag : Unit := ()
open gS
section
variable {p9 : Program} {lo9 : List Str} {w : World} {A : Around} {s : Shared} {base : Heap} {mg mb : Str → Option Value} {mean : ExcName → Option Value} {Q E : Value → Shared → Prop}
example : True := by
  k_with "gS ktr_rel" => (exact dict_keep (by k_asm) (by k_asm) (by k_mem) (by k_asm))
  k_with "gS subscriptTail" => (k_here; (with_reducible show wpAny _ _ (subscriptTail _ _ (Value.ref _) (Value.int _ _)) _ _ _); k_dflt (refine' item_B (News.isList (by k_asm) (by k_mem)) (by k_asm) ?i0 ?i1 ?ip ?_; (case i0 => first | decide | omega); (case i1 => first | decide | omega); (case ip => first | assumption | rfl)); intro t')
  k_with "gS subscriptTail" => (k_here; (with_reducible show wpAny _ _ (subscriptTail _ (Expr.Slice _ none none _) (Value.ref _) (Value.ref _)) _ _ _); (with_reducible rename Fr _ _ _ _ => F'); (with_reducible rename News _ _ _ _ => N'); k_dflt (refine' slice_B (s := ⟨_, _, _, _, _⟩) F' N' (News.isList (by k_asm) (by k_mem)) (by k_asm) (by decide) (by decide) ?_); intro D' ws' h' F' N' hb' l1; (try k_lt l1); (try k_sweep))
  k_with "gS compareOp In bytes ref" => (k_here; k_dflt (refine' in_B (News.isList (by k_asm) (by k_mem)) (by k_asm) ?_))
  k_with "gS pyIter ref" => (refine iter_stop ?_)
  k_with "gS call builtin:list.append" => (k_here; (with_reducible show wpAny _ _ (call (Value.builtin _) [Value.ref _, _]) _ _ _); k_dflt (refine' append_K ?k1 ?k2 ?k3 ?_ ?z; (case k1 => k_asm); (case k2 => k_asm); (case k3 => k_upd); (case z => (simp only [List.size_toArray, List.length_append, List.length_cons, List.length_nil, PySem.sizeLine_eq]; omega)); k_whole); intro h' F' N'; (try k_sweep))
  k_with "gS subscriptTail" => (k_here; (with_reducible show wpAny _ _ (subscriptTail _ _ (Value.ref _) (Value.int (-1) _)) _ _ _); k_dflt (refine' last_B (News.isList (by k_asm) (by k_mem)) ?_))
  trivial
theorem six {i k : Nat} (h : i + (k + 1) = 6) (n : ((0 : Int) + (i : Int)) ≠ 5) : ∃ f, k = f + 1 := by
  cases k with
  | zero => exact absurd (by rw [Nat.succ.inj h]; rfl) n
  | succ f => exact ⟨f, rfl⟩
inductive JLf (dg l : Addr) (o : Obj) (t : Tok) (k : Bts) (D : DD) (i : Nat) (m : Str → Option Value) (news : List (Addr × Obj)) : Prop
  | mk (pre : List Bts) (cur : Bts) (vs : List Value) (tc : Tok) (cnt : Nat) (rn1 rn2 : Option Value) (j1 : m = (fun y => if y = Str.ofString "names" then some (Value.ref l) else if y = Str.ofString "found" then rn1 else if y = Str.ofString "step" then rn2 else List.lookup y [(Str.ofString "held", Value.ref dg), (Str.ofString "spot", Value.bytes (List.toArray k) t)].reverse)) (j2 : news = [(l, W.listOf (vs ++ [Value.bytes cur.toArray tc]).toArray cnt), (dg, o)]) (j3 : BytesAre vs pre) (j4 : cur.length ≤ 64) (j5 : vs.length = i) (j6 : followD D 6 k = glue pre (followD D (6 - i) cur))
set_option maxHeartbeats 4000000 in
theorem spec_lfollow {dg : Addr} {D : DD} {k : Bts} {t : Tok} (X : (hd.heap_1 w.params).In base) (T : Top p9 lo9 mean mg mb base) (hb : KeepAll base s.heap) (hroom : A.depth + 4 < recursionLimit) (hun : A.units + 40 < cLine) (hhd : A.handled = none) (hR : DictAt w base s.heap dg D) (hV : ValsOk D) (hkl : k.length ≤ 64)
    (h : ∀ T l b tb vs ps cnt h' tk', followD D 6 k = some (ps, some b) → BytesAre vs ps → KeepAll s.heap h' → h'.get? T = some { cls := .type "tuple", data := .seq #[.ref l, .bytes b.toArray tb] } → h'.get? l = some (W.listOf vs.toArray cnt) →
      s.heap.get? T = none → s.heap.get? l = none → Q (.ref T) { s with heap := h', toks := tk' })
    (hn : ∀ T l vs ps cnt h' tk', followD D 6 k = some (ps, none) → BytesAre vs ps → KeepAll s.heap h' → h'.get? T = some { cls := .type "tuple", data := .seq #[.ref l, .none] } → h'.get? l = some (W.listOf vs.toArray cnt) →
      s.heap.get? T = none → s.heap.get? l = none → Q (.ref T) { s with heap := h', toks := tk' })
    (hE : followD D 6 k = none → ∀ h' tk', KeepAll s.heap h' → Q (Value.none) { s with heap := h', toks := tk' }) :
    wpAny (model PG w) A (call (.ref 325) [.ref dg, .bytes k.toArray t]) Q E s := by
  refine wpAny_call ?_
  refine' enter_def (binds := [(Str.ofString "held", Value.ref dg), (Str.ofString "spot", Value.bytes k.toArray t)]) (X.keeps hb) (T.keeps hb) ?k6 ?k7 ?k8 ?k9 ?kB ?_ ?c2 ?c3 ?c4 ?c5
  case k6 => k_is
  case k7 => k_is
  case k8 => omega
  case k9 => exact BindsTo.of_eq rfl
  case kB => exact locs rfl
  case c2 => exact rfl
  case c3 => exact rfl
  case c4 => exact rfl
  case c5 => decide
  intro L' h' hL F'
  obtain ⟨o, F1, N1, X1, T1, hB, lo, e1, hbg⟩ := hR.open F' X T hb
  clear F'
  (try dsimp only)
  (try k_fold)
  k_steps
  rename_i l hx l1 hy Fo No hh tkk u1 u2 u3 hr F9 N9 kk
  have hlh : s.heap.get? l = none := hide1 (News.fresh N9 (by k_mem)) l1
  show wpAny _ _ (pyIter _) _ _ _
  refine iter_rangeUnr (n := 6) hhd hr (by decide) (by rfl) F9 N9 (fun I hI => ?_)
  have hI1 : @LT.lt Nat _ l I := hI _ (.head _)
  have hI2 : @LT.lt Nat _ dg I := hI _ (.tail _ (.head _))
  clear Fo No F9
  refine range_ind (J := JLf dg l o t k D) ?_ ?_ ⟨[], k, [], t, 0, none, none, funext (by intro y9; by_cases c0 : y9 = Str.ofString "names"; (subst c0; with_unfolding_all rfl); by_cases c1 : y9 = Str.ofString "found"; (subst c1; with_unfolding_all rfl); by_cases c2 : y9 = Str.ofString "step"; (subst c2; with_unfolding_all rfl); simp only [if_neg c0, if_neg c1, if_neg c2]), rfl, .nil, hkl, rfl, (glue_nil _).symm⟩
  · rintro k' i m news ⟨pre, cur, vs, tc, cnt, rn1, rn2, rfl, rfl, hvs, hcl, hvl, hfo⟩ hk ih
    rw [show 6 - i = k' + 1 from Nat.sub_eq_of_eq_add' hk.symm] at hfo
    have hvl2 : (vs ++ [Value.bytes cur.toArray tc]).length ≤ 6 := by simp; omega
    refine RangeRest.succ (fun t' h' tk' F' N' => ?_)
    k_steps
    · obtain rfl : k' = 0 := by omega
      exact hE (hfo.trans (glue_out (by k_asm))) _ _ (by ktr_rel)
    · obtain ⟨f, rfl⟩ := six hk (by assumption)
      rename I < _ ∧ _ => lt9
      exact h _ _ _ _ _ _ _ _ _ (hfo.trans (glue_end (by k_asm) (nref_of (by k_asm)))) (hvs.snoc _ _) (by ktr_rel) (News.get (by k_asm) (by k_mem)) (News.get (by k_asm) (by k_mem)) (hide1 (News.fresh (by k_asm) (by k_mem)) lt9.2.2) hlh
    · obtain ⟨f, rfl⟩ := six hk (by assumption)
      refine ih _ _ ⟨pre ++ [cur], _, vs ++ [Value.bytes cur.toArray tc], _, cnt + 1, _, _, funext (by intro y9; by_cases c0 : y9 = Str.ofString "names"; (subst c0; with_unfolding_all rfl); by_cases c1 : y9 = Str.ofString "found"; (subst c1; with_unfolding_all rfl); by_cases c2 : y9 = Str.ofString "step"; (subst c2; with_unfolding_all rfl); simp only [if_neg c0, if_neg c1, if_neg c2]), by rw [List.push_toArray, sl5_drop], hvs.snoc _ _, len_drop (hV _ _ (by k_asm)).2, by simp; omega, ?_⟩
      rw [show 6 - (i + 1) = f + 1 from Nat.sub_eq_of_eq_add' (by rw [← hk, Nat.add_assoc i 1, Nat.add_comm 1 (f + 1)])]
      exact hfo.trans (glue_step (by k_asm) (ref_of (by k_asm)))
    · rename I < _ ∧ _ => lt9
      exact hn _ _ _ _ _ _ _ (hfo.trans (glue_none (by k_asm))) (hvs.snoc _ _) (by ktr_rel) (News.get (by k_asm) (by k_mem)) (News.get (by k_asm) (by k_mem)) (hide1 (News.fresh (by k_asm) (by k_mem)) lt9.2.2) hlh
  · rintro m news ⟨pre, cur, vs, tc, cnt, rn1, rn2, rfl, rfl, hvs, hcl, hvl, hfo⟩
    refine RangeRest.zero (fun h' tk' F' N' => ?_)
    k_steps
    exact hE hfo _ _ (by ktr_rel)
end
end
example : ∀ w A s Q E, TZ w A s Q E → TZ w A s Q E := by intro w A s Q E h; w_top off; first | (walk1; fail) | exact h
section
noncomputable def CodesOk (q : Str) (ps : Array Value) (codes : List (Addr × Obj)) : Prop :=
  TriplesOk ps.toList ∧ ∀ pos cv, codeAmong pos ps.toList = some cv → ∃ c' oc vs t, cv = .ref c' ∧ (c', oc) ∈ codes ∧ oc.data = .fields vs ∧ vs[1]? = some (.str q t)
theorem CodesOk.nil {q : Str} : CodesOk q #[] [] := ⟨trivial, fun pos cv h => by cases h⟩
theorem among_snoc {pos : Pos} {a b : Int} {c : Value} : ∀ (l : List Value), TriplesOk l → codeAmong pos (l ++ [rawInt a, rawInt b, c]) = match codeAmong pos l with | some v => some v | none => if a == pos.line && b == pos.col then some c else none
  | [], _ => by simp [codeAmong, rawInt]
  | .int x _ :: .int y _ :: z :: r, h => by
    have ih := among_snoc (pos := pos) (a := a) (b := b) (c := c) r h
    simp only [List.cons_append, codeAmong]
    split
    · rfl
    · exact ih
theorem CodesOk.push {q : Str} {ps : Array Value} {codes : List (Addr × Obj)} {pos : Pos} {c' : Addr} {oc : Obj} {vs : Array Value} {t : Tok} (h : CodesOk q ps codes) (hd : oc.data = .fields vs) (hv : vs[1]? = some (.str q t)) :
    CodesOk q (ps ++ #[rawInt pos.line, rawInt pos.col, .ref c']) ((c', oc) :: codes) := by
  refine ⟨by rw [Array.toList_append]; exact TriplesOk_snoc _ _ _ _ h.1, fun pos' cv hc => ?_⟩
  rw [Array.toList_append, among_snoc _ h.1] at hc
  split at hc
  · rename_i v hv'
    cases hc
    obtain ⟨a, b, c, d, e1, e2, e3⟩ := h.2 pos' _ hv'
    exact ⟨a, b, c, d, e1, .tail _ e2, e3⟩
  · split at hc
    · cases hc
      exact ⟨c', oc, vs, t, rfl, .head _, hd, hv⟩
    · cases hc
section
variable {M : Model} {A : Around} {E : Value → Shared → Prop} {s : Shared} {h₀ : Heap} {L a c P : Addr} {m mg mb : Str → Option Value} {cn : Str} {cs : Scope} {ccd : Value} {cl : List (Str × Addr)} {news : List (Addr × Obj)} {g : Obj → List (Addr × Obj)}
  {p : Program} {loose : List Str} {mean : ExcName → Option Value} {params : Arguments} {body : PySem.Expr} {scope : Scope} {ps : Array Value} {pos : Pos} {clos : List (Str × Addr)} {codes : List (Addr × Obj)}
theorem lam_any {Q : Value → Shared → Prop} (F : Fr h₀ L s.heap m) (N : News h₀ L s.heap news) (T : Top p loose mean mg mb h₀) (C : CodeHd h₀ c P) (hcd : ccd = .ref c) (U : UpdF P (tabObj ps) news g)
    (hco : CodesOk ((envX cn cs L a ccd cl).qual ++ "<lambda>") ps codes) (hsub : ∀ x ∈ codes, x ∈ news) (hcl : closureFor scope (envX cn cs L a ccd cl) = pure clos) (hdef : defaultsOf params (envX cn cs L a ccd cl) = ([], []))
    (h : ∀ f c' ctv pm extra ps' h' tk, Fr h₀ L h' m → News h₀ L h' ((f, kla_obj "<lambda>" ((envX cn cs L a ccd cl).qual ++ "<lambda>") params body scope clos pm c' ctv) :: (extra ++ g (tabObj ps'))) →
      CodesOk ((envX cn cs L a ccd cl).qual ++ "<lambda>") ps' (extra ++ codes) → h'.CodeRec (.ref c') ((envX cn cs L a ccd cl).qual ++ "<lambda>") → (∀ x ∈ extra, ∀ y ∈ news, y.1 < x.1) → (∀ y ∈ news, y.1 < f) → Q (.ref f) { s with heap := h', toks := tk }) :
    wpAny M A (eval (.Lambda params body scope pos) (envX cn cs L a ccd cl)) Q E s := by
  refine kla_eval hdef ?_
  obtain ⟨own, rest, rfl, hgr, h1, h2⟩ := id U.split
  have hm : (P, tabObj ps) ∈ own ++ (P, tabObj ps) :: rest := List.mem_append_right _ (.head _)
  cases hf : codeAmong pos ps.toList with
  | none =>
    refine kla_nest F N T C hcd U hco.1 hf hcl fun f c' oc vs t ctv h' tk F' N' d1 d2 l1 l2 => ?_
    refine h f c' ctv _ [(c', oc)] _ h' tk F' N' (hco.push d1 d2) (codeRec_news N' (.tail _ (.head _)) d1 d2) (fun x hx y hy => by rw [List.mem_singleton.mp hx]; exact l1 y hy) fun y hy => Nat.lt_trans (l1 y hy) l2
  | some cv =>
    obtain ⟨c', oc, vs, t, rfl, hmem, d1, d2⟩ := hco.2 _ _ hf
    refine kla_hit F N T C hcd hm hco.1 hf hcl fun f ctv h' tk F' N' l1 => ?_
    refine h f c' ctv _ [] ps h' tk F' (by rw [List.nil_append, hgr]; exact N') hco (codeRec_news N' (.tail _ (hsub _ hmem)) d1 d2) (fun x hx => nomatch hx) l1
end
section
variable {prog : Program} {w : World} {A : Around} {E : Value → Shared → Prop} {s : Shared} {name qual : Str} {params : Arguments} {body : PySem.Expr} {scope : Scope} {cl : List (Str × Addr)} {pm ctv : Value} {c' f : Addr} {Q : Value → Shared → Prop}
theorem enter_lam (ho : s.heap.get? f = some (kla_obj name qual params body scope cl pm c' ctv)) (hnl : s.heap.NoLimit) (hcd : s.heap.CodeRec (.ref c') qual) (hroom : A.depth < recursionLimit)
    (hbind : bindArgs (kla_fn name qual params body scope cl pm (.ref c') ctv) ⟨[], []⟩ = pure [])
    (h : ∀ L' h₁, L' = s.heap.objs.size → Fr s.heap L' h₁ (fun _ => none) →
      wpAny (model prog w) (A.deeper (envX qual scope L' f (.ref c') cl)) (eval body (envX qual scope L' f (.ref c') cl)) Q
        (fun e s' => wpAny (model prog w) (A.deeper (envX qual scope L' f (.ref c') cl)) (leaving (envX qual scope L' f (.ref c') cl) e) (fun _ s'' => E e s'') (fun e' s'' => E e' s'') s')
        { s with heap := h₁, toks := s.toks })
    (hco : scope.isCoroutine = false) (hgen : scope.isGenerator = false) (hk : scope.kind = .function)
    (hcell : ∀ x ∈ scope.names, x.2 ≠ .cell) : wpAny (model prog w) A (call (.ref f) []) Q E s := by
  refine wpAny_call (kla_callFunE hroom ho rfl hco hgen rfl hcd ?_)
  rw [hbind]
  refine wpAny_pure (wpAny_newFunctionEnv hcell (by simp) (fun h₁ hns hsb => ⟨hnl.fresh _ hsb, ?_⟩) hk)
  show codeAny _ _ (.expr body (envX qual scope s.heap.objs.size f (.ref c') cl)) _ _
  have hk₁ : ∀ b o, s.heap.get? b = some o → h₁.get? b = some o := fun b o e => hsb.extBut b o (Nat.ne_of_lt (Heap.lt_size e)) (Heap.get?_push_of_some _ e)
  exact kla_codeExpr (h _ h₁ rfl ⟨hns, hk₁, Nat.le_refl _⟩)
end
theorem above_ne {B d : Nat} {codes : List (Addr × Obj)} (h : ∀ p ∈ codes, @LT.lt Nat _ B p.1) (hd : d ≤ B) : ∀ p ∈ codes, p.1 ≠ d := fun p hp q => by have := h p hp; rw [q] at this; exact absurd hd (Nat.not_le_of_lt this)
theorem news_shift {g h : Heap} {L : Addr} {x : Addr × Obj} {extra codes : List (Addr × Obj)} (conc : List (Addr × Obj)) (N : News g L h (x :: (extra ++ (conc ++ codes)))) : News g L h (x :: (conc ++ (extra ++ codes))) := fun p hp => N p (by
  rcases List.mem_cons.mp hp with rfl | hp
  · exact .head _
  · refine .tail _ ?_
    rcases List.mem_append.mp hp with hp | hp
    · exact List.mem_append_right _ (List.mem_append_left _ hp)
    · rcases List.mem_append.mp hp with hp | hp
      · exact List.mem_append_left _ hp
      · exact List.mem_append_right _ (List.mem_append_right _ hp))
end
example : ∀ w A s Q E, TZ w A s Q E → TZ w A s Q E := by intro w A s Q E h; w_top off; first | (walk1; fail) | exact h
section
section
variable {prog : Program} {w : World} {A : Around} {E : Value → Shared → Prop} {s : Shared} {env : Env} {h₀ : Heap} {x : Str} {body : List Stmt} {Q : Flow → Shared → Prop} {I : Addr} {lp : Addr × Obj}
theorem list_ind (J : (Str → Option Value) → List (Addr × Obj) → Prop) (P : Value → Prop) {vs : List Value} (hP : ∀ v ∈ vs, P v)
    (step : ∀ v r m news, P v → J m news → (∀ m' news', J m' news' → ListRest prog w A E h₀ env x body Q s I lp r m' news') → ListRest prog w A E h₀ env x body Q s I lp (v :: r) m news)
    (done : ∀ m news, J m news → ListRest prog w A E h₀ env x body Q s I lp [] m news) {m : Str → Option Value} {news : List (Addr × Obj)} (h0 : J m news) : ListRest prog w A E h₀ env x body Q s I lp vs m news := by
  induction vs generalizing m news with
  | nil => exact done m news h0
  | cons v r ih => exact step v r m news (hP v (.head _)) h0 fun m' news' h' => ih (fun u hu => hP u (.tail _ hu)) h'
end
theorem ints_all {ws : List Value} {ns : List Int} (h : IntsAre ws ns) : ∀ v ∈ ws, ∃ n t, v = Value.int n t := by
  induction h with
  | nil => intro v hv; cases hv
  | cons n t _ ih =>
    intro v hv
    rcases List.mem_cons.mp hv with rfl | hv
    · exact ⟨_, _, rfl⟩
    · exact ih v hv
section
variable {w : World} {A : Around} {E : Value → Shared → Prop} {s : Shared}
theorem item_Bm {l : Addr} {vs : List Value} {ps : List Bts} {k : Int} {t : Tok} {Q : Value → Shared → Prop} {value slice : PySem.Expr} (hl : s.heap.IsList l vs.toArray) (hi : BytesAre vs ps) (h0 : 0 ≤ k) (hk : k < ps.length) (hz : ps.length ≤ 1000)
    (h : ∀ p t', ps[k.toNat]? = some p → Q (.bytes p.toArray t') s) (hs : subscripted slice false (.ref l) (.int k t) = operate [.ref l, .int k t] (getItem (.ref l) (.int k t)) := by with_unfolding_all rfl) : wpAny (model PG w) A (subscriptTail value slice (.ref l) (.int k t)) Q E s := by
  have hlt : k.toNat < ps.length := by omega
  exact item_B hl hi h0 (by omega) (List.getElem?_eq_getElem hlt) (fun t' => h _ t' (List.getElem?_eq_getElem hlt)) hs
theorem item_Om {l : Addr} {vs : List Value} {os : List (Option Bts)} {k : Int} {t : Tok} {Q : Value → Shared → Prop} {value slice : PySem.Expr} (hl : s.heap.IsList l vs.toArray) (hi : OldsAre vs os) (h0 : 0 ≤ k) (hk : k < os.length) (hz : os.length ≤ 1000)
    (h : ∀ o v, o ∈ os → ResIs o v → Q v s) (hs : subscripted slice false (.ref l) (.int k t) = operate [.ref l, .int k t] (getItem (.ref l) (.int k t)) := by with_unfolding_all rfl) : wpAny (model PG w) A (subscriptTail value slice (.ref l) (.int k t)) Q E s := by
  have hlen : vs.length = os.length := by
    clear hl h0 hk hz h hs
    induction hi with
    | nil => rfl
    | cons _ _ _ _ ih => simp [ih]
  have get : ∀ (vs : List Value) (os : List (Option Bts)), OldsAre vs os → ∀ (i : Nat) (v : Value), vs[i]? = some v → ∃ o ∈ os, ResIs o v := by
    intro vs os hi
    induction hi with
    | nil => intro i v h; cases h
    | cons o v hr _ ih =>
      intro i u hu
      cases i with
      | zero => cases hu; exact ⟨o, .head _, hr⟩
      | succ i => obtain ⟨o', m, r⟩ := ih i u hu; exact ⟨o', .tail _ m, r⟩
  have hlt : k.toNat < vs.length := by omega
  obtain ⟨o, m, r⟩ := get vs os hi k.toNat _ (List.getElem?_eq_getElem hlt)
  exact tail_any hl.typeIs slot_list_getitem.lookup (wpAny_getItem_list hl h0 (by omega) (by simp [hlt]) (h o _ m r)) hs
end
noncomputable def GoodD (D : DD) : Prop := (∀ k v, getB D k = some v → v ≠ badV ∧ v.length ≤ 64 ∧ v ≠ []) ∧ D.length ≤ 100
end
example : ∀ w A s Q E, TZ w A s Q E → TZ w A s Q E := by intro w A s Q E h; w_top off; first | (walk1; fail) | exact h
section
theorem post_true {M : Model} {A : Around} {cd : Code} {s s₁ : Shared} {cw : ClaimW} {cl : Str → Option Addr} {mean : ExcName → Option Value} {args : List WData} {tabs : List (Addr × Addr)} (hT : TabsAt tabs s₁.heap)
    (hr : ∀ cls, cw.raises args cls = false) (hp : cw.post args (.bool true) args = true)
    (h : codeAny M A cd (fun r s' => r = .ok (.ret (.bool true)) ∧ KeepAll (ghostOf s₁.heap tabs) s'.heap ∧ s'.os = s₁.os ∧ AllBare s'.gens ∧ GrownAll tabs s'.heap) s) : codeAny M A cd (GoodWG cw cl mean args s₁) s :=
  codeAny_mono h fun r s' ⟨hc, hk, hos, hg, hgr⟩ => by
    have keep : ∀ b o, b ∉ tabs.map (·.2) → s₁.heap.get? b = some o → s'.heap.get? b = some o := fun b o hb e => hk b o (ghost_ne e hb)
    refine ⟨.inl ⟨.bool true, .bool true, [], hc, hr, .bool true, hp, fun _ => ⟨List.nodup_nil, fun a ha => nomatch ha⟩⟩, ⟨fun b o e => ?_, fun b o e => ?_⟩, hos, hg⟩
    · by_cases hb : b ∈ tabs.map (·.2)
      · obtain ⟨q, hq, rfl⟩ := List.mem_map.mp hb
        have e2 := (hT q hq).2
        rw [e] at e2
        obtain ⟨ps, hP⟩ := hgr.get q hq
        cases e2
        exact .inr (.inl ⟨((hT q hq).1.tab (hT q hq).2).isCodeTable, rfl, #[], ps, rfl, by rw [Array.empty_append]; exact hP⟩)
      · exact .inl (keep b o hb e)
    · by_cases hb : b ∈ tabs.map (·.2)
      · obtain ⟨q, hq, rfl⟩ := List.mem_map.mp hb
        obtain ⟨ps, hP⟩ := hgr.get q hq
        exact ⟨_, hP⟩
      · exact ⟨o, keep b o hb e⟩
theorem tabs_two {h : Heap} {c P : Addr} {tabs : List (Addr × Addr)} (a : TabsAt tabs h) (b : CodeHd h c P ∧ h.get? P = some (tabObj #[])) : TabsAt (tabs ++ [(c, P)]) h := fun q hq => by
  rcases List.mem_append.mp hq with hq | hq
  · exact a q hq
  · rw [List.mem_singleton.mp hq]; exact b
theorem iter_stop2 {M : Model} {A : Around} {v : Value} {Q : Value → Shared → Prop} {E : Value → Shared → Prop} {s : Shared} (h : Stop (wpAny M A (pyIter v) Q E s)) : wpAny M A (pyIter v) Q E s := h
end
example : ∀ w A s Q E, TZ w A s Q E → TZ w A s Q E := by intro w A s Q E h; w_top off; first | (walk1; fail) | exact h
section
theorem fr_names {g h : Heap} {L : Addr} {m : Str → Option Value} {a b c : Value} (F : Fr g L h m) (e1 : m (Str.ofString "script") = some a) (e2 : m (Str.ofString "held") = some b) (e3 : m (Str.ofString "given") = some c) :
    ∃ m9 : Str → Option Value, Fr g L h (fun y => if y = Str.ofString "script" then some a else if y = Str.ofString "held" then some b else if y = Str.ofString "given" then some c else m9 y) :=
  ⟨m, Fr.to F fun y => by
    by_cases c1 : y = Str.ofString "script"
    · rw [if_pos c1, c1, e1]
    rw [if_neg c1]
    by_cases c2 : y = Str.ofString "held"
    · rw [if_pos c2, c2, e2]
    rw [if_neg c2]
    by_cases c3 : y = Str.ofString "given"
    · rw [if_pos c3, c3, e3]
    rw [if_neg c3]⟩
theorem fr_turn2 {g h h' : Heap} {L d c : Addr} {m : Str → Option Value} {o oc : Obj} {news : List (Addr × Obj)} (F : Fr g L h m) (N : News g L h news) (hm : (d, o) ∈ news) (hc : (c, oc) ∈ news) (k : Keep [d, c] h h') : Fr g L h' m := by
  obtain ⟨_, hd1, hd2⟩ := N _ hm
  obtain ⟨_, hc1, hc2⟩ := N _ hc
  refine ⟨F.ns.at' fun o e => k _ _ (fun hm => ?_) e, fun b o e => ?_, F.above⟩
  · rcases List.mem_cons.mp hm with q | hm
    · exact hd1 q.symm
    · exact hc1 (List.mem_singleton.mp hm).symm
  · refine k _ _ (fun hm => ?_) (F.keep _ _ e)
    rcases List.mem_cons.mp hm with q | hm
    · rw [q] at e; rw [e] at hd2; cases hd2
    · rw [List.mem_singleton.mp hm] at e; rw [e] at hc2; cases hc2
theorem news_turn2 {g h h' : Heap} {L d c : Addr} {o o' oc oc' : Obj} {news : List (Addr × Obj)} {u v : Obj → List (Addr × Obj)} (N : News g L h news) (U : UpdF d o news u) (V : UpdF c oc (u o') v) (k : Keep [d, c] h h') (e : h'.get? d = some o') (ec : h'.get? c = some oc') (hcm : (c, oc) ∈ news) : News g L h' (v oc') := by
  obtain ⟨own, rest, rfl, hg, h1, h2⟩ := U.split
  obtain ⟨own2, rest2, e2, hg2, h3, h4⟩ := V.split
  rw [hg2 oc']
  rw [hg o'] at e2
  have old : ∀ p ∈ own ++ (d, o') :: rest, p.1 ≠ c → h'.get? p.1 = some p.2 ∧ p.1 ≠ L ∧ g.get? p.1 = none := fun p hp hpc => by
    have base : ∀ q ∈ own ++ (d, o) :: rest, q.1 ≠ d → q.1 ≠ c → h'.get? q.1 = some q.2 ∧ q.1 ≠ L ∧ g.get? q.1 = none := fun q hq n1 n2 => by
      obtain ⟨a, b, z⟩ := N q hq
      exact ⟨k _ _ (fun hm => by
        rcases List.mem_cons.mp hm with x | hm
        · exact n1 x
        · exact n2 (List.mem_singleton.mp hm)) a, b, z⟩
    rcases List.mem_append.mp hp with hp | hp
    · exact base p (List.mem_append_left _ hp) (h1 p hp) hpc
    rcases List.mem_cons.mp hp with rfl | hp
    · obtain ⟨_, b, z⟩ := N (d, o) (List.mem_append_right _ (.head _))
      exact ⟨e, b, z⟩
    · exact base p (List.mem_append_right _ (.tail _ hp)) (h2 p hp) hpc
  intro p hp
  rcases List.mem_append.mp hp with hp | hp
  · exact old p (by rw [e2]; exact List.mem_append_left _ hp) (h3 p hp)
  rcases List.mem_cons.mp hp with rfl | hp
  · obtain ⟨_, b, z⟩ := N (c, oc) hcm
    exact ⟨ec, b, z⟩
  · exact old p (by rw [e2]; exact List.mem_append_right _ (.tail _ hp)) (h4 p hp)
theorem fr_keepF {g h h' : Heap} {L : Addr} {m : Str → Option Value} {env : Env} (F : Fr g L h m) (K : KeepF [env] h h') (hf : env.frame = some L) : Fr g L h' m := by
  refine F.of_stays (fun b o q => K.1 b o (fun hm => ?_) (F.keep _ _ q)) K.2
  obtain ⟨e', he', h2⟩ := List.mem_filterMap.mp hm
  rw [List.mem_singleton.mp he', hf] at h2
  cases h2
  rw [Heap.get?_none_of_le F.above] at q; cases q
theorem news_keepF {g h h' : Heap} {L : Addr} {news : List (Addr × Obj)} {env : Env} (N : News g L h news) (K : KeepF [env] h h') (hf : env.frame = some L) : News g L h' news := fun p hp => by
  obtain ⟨n1, n2, n3⟩ := N p hp
  refine ⟨K.1 _ _ (fun hm => ?_) n1, n2, n3⟩
  obtain ⟨e', he', h2⟩ := List.mem_filterMap.mp hm
  rw [List.mem_singleton.mp he', hf] at h2
  cases h2; exact n2 rfl
theorem codes_mem {codes news : List (Addr × Obj)} {x : Addr × Obj} (h : ∀ p ∈ codes, p ∈ news) : ∀ p ∈ codes, p ∈ x :: news := fun p hp => .tail _ (h p hp)
theorem codes_self {codes : List (Addr × Obj)} : ∀ p ∈ codes, p ∈ codes := fun _ h => h
theorem iter_obj {h : Heap} {I l : Addr} {i : Nat} (x : h.IsListIter I l i) : ∃ oI, h.get? I = some oI ∧ oI.cls = .type "list_iterator" ∧ oI.data = .fields #[.ref l, .int i 0] := x
theorem fm_nn {a b : Int} (h : 0 < b) : 0 ≤ a.fmod b := by rw [Int.fmod_eq_emod_of_nonneg _ (Int.le_of_lt h)]; exact Int.emod_nonneg _ (Int.ne_of_gt h)
theorem fm_lt {a b : Int} (h : 0 < b) : a.fmod b < b := by rw [Int.fmod_eq_emod_of_nonneg _ (Int.le_of_lt h)]; exact Int.emod_lt_of_pos _ h
theorem base_self {h : Heap} : KeepAll h h := fun _ _ e => e
theorem no_frs {l : List Addr} : ∀ b ∈ frs ([] : List Env), b ∉ l := fun _ h => nomatch h
noncomputable def names6 : List Bts := names9.take 6
noncomputable def okVals : List Bts := vals6.take 5 ++ names6.map fun a => rp ++ a
noncomputable def Good (D : DD) : Prop := (∀ p ∈ D, p.1 ∈ names6 ∧ p.2 ∈ okVals) ∧ (D.map (·.1)).Nodup
theorem Good.nil : Good [] := ⟨fun _ h => (nomatch h), List.nodup_nil⟩
theorem getB_mem {D : DD} {k v : Bts} (h : getB D k = some v) : (k, v) ∈ D := by
  unfold getB at h
  obtain ⟨p, hp, e⟩ := Option.map_eq_some_iff.mp h
  have h1 := List.find?_some hp
  have h2 := List.mem_of_find?_eq_some hp
  simp only [decide_eq_true_eq] at h1
  rw [← h1, ← e]; exact h2
theorem okVals_len : ∀ v ∈ okVals, v ≠ [] ∧ v.length ≤ 64 ∧ v ≠ badV := by decide +kernel
theorem Good.vals {D : DD} (h : Good D) : ValsOk D := fun k v e => ⟨(okVals_len v (h.1 _ (getB_mem e)).2).1, (okVals_len v (h.1 _ (getB_mem e)).2).2.1⟩
theorem nodup_len {α : Type} [DecidableEq α] : ∀ {l m : List α}, l.Nodup → (∀ a ∈ l, a ∈ m) → l.length ≤ m.length
  | [], _, _, _ => Nat.zero_le _
  | a :: r, m, hn, hs => by
    have ha := hs a (.head _)
    have := nodup_len (m := m.erase a) (List.nodup_cons.mp hn).2 fun b hb => (List.mem_erase_of_ne (by rintro rfl; exact (List.nodup_cons.mp hn).1 hb)).mpr (hs b (.tail _ hb))
    rw [List.length_erase_of_mem ha] at this
    have hm : 0 < m.length := List.length_pos_of_mem ha
    simp only [List.length_cons]; omega
theorem Good.len {D : DD} (h : Good D) : D.length ≤ 6 := by
  have h1 : (D.map (·.1)).length ≤ names6.length := nodup_len h.2 fun k hk => by
    obtain ⟨p, hp, rfl⟩ := List.mem_map.mp hk
    exact (h.1 p hp).1
  rw [List.length_map] at h1
  exact h1
theorem Good.len100 {D : DD} (h : Good D) : D.length ≤ 100 := Nat.le_trans h.len (by decide)
theorem Good.put {D : DD} {k v : Bts} (h : Good D) (hk : k ∈ names6) (hv : v ∈ okVals) : Good (putB D k v) := by
  unfold putB
  split
  · refine ⟨fun p hp => ?_, ?_⟩
    · obtain ⟨q, hq, rfl⟩ := List.mem_map.mp hp
      by_cases e : q.1 = k
      · rw [if_pos e]; exact ⟨(h.1 q hq).1, hv⟩
      · rw [if_neg e]; exact h.1 q hq
    · have : (D.map fun p => if p.1 = k then (p.1, v) else p).map (·.1) = D.map (·.1) := by
        rw [List.map_map]
        refine List.map_congr_left fun p _ => ?_
        simp only [Function.comp]
        split <;> rfl
      rw [this]; exact h.2
  · rename_i hn
    refine ⟨fun p hp => ?_, ?_⟩
    · rcases List.mem_append.mp hp with hp | hp
      · exact h.1 p hp
      · rw [List.mem_singleton.mp hp]; exact ⟨hk, hv⟩
    · rw [List.map_append]
      refine List.nodup_append.mpr ⟨h.2, by simp, fun a ha b hb e => hn ?_⟩
      obtain ⟨p, hp, rfl⟩ := List.mem_map.mp ha
      simp only [List.map_cons, List.map_nil, List.mem_singleton] at hb
      exact List.any_eq_true.mpr ⟨p, hp, by simp [e, hb]⟩
theorem Good.del {D : DD} {k : Bts} (h : Good D) : Good (delB D k) := by
  unfold delB
  refine ⟨fun p hp => h.1 p (List.mem_filter.mp hp).1, ?_⟩
  exact h.2.sublist (List.Sublist.map _ List.filter_sublist)
theorem all_ne_of {g h : Heap} {L I0 : Addr} {oI : Obj} {news : List (Addr × Obj)} (_N : News g L h ((I0, oI) :: news)) (I : Addr) (h : ∀ p ∈ news, p.1 ≠ I) : ∀ p ∈ news, p.1 ≠ I := h
theorem fr_step {g h h' : Heap} {L I : Addr} {m : Str → Option Value} {oI : Obj} {news : List (Addr × Obj)} (F : Fr g L h m) (N : News g L h ((I, oI) :: news)) (k : Heap.SameBut I h h') : Fr g L h' m :=
  F.change k (N _ (.head _)).2.1 (N _ (.head _)).2.2
theorem news_step {g h h' : Heap} {L I : Addr} {oI oJ : Obj} {news : List (Addr × Obj)} (N : News g L h ((I, oI) :: news)) (ne : ∀ p ∈ news, p.1 ≠ I) (k : Heap.SameBut I h h') (e : h'.get? I = some oJ) : News g L h' ((I, oJ) :: news) := fun p hp => by
  rcases List.mem_cons.mp hp with rfl | hp
  · exact ⟨e, (N _ (.head _)).2⟩
  · obtain ⟨a, b, c⟩ := N p (.tail _ hp)
    exact ⟨k.extBut _ _ (ne p hp) a, b, c⟩
theorem fr_last {g h h' : Heap} {L I : Addr} {m : Str → Option Value} {oI : Obj} {news : List (Addr × Obj)} (F : Fr g L h m) (N : News g L h ((I, oI) :: news)) (k : Heap.ExtBut I h h') : Fr g L h' m := by
  obtain ⟨_, n1, n2⟩ := N _ (.head _)
  exact ⟨F.ns.at' fun o e => k _ _ (Ne.symm n1) e, fun b o e => k _ _ (fun q => by subst q; rw [e] at n2; cases n2) (F.keep _ _ e), F.above⟩
theorem news_last {g h h' : Heap} {L I : Addr} {oI : Obj} {news : List (Addr × Obj)} (N : News g L h ((I, oI) :: news)) (ne : ∀ p ∈ news, p.1 ≠ I) (k : Heap.ExtBut I h h') : News g L h' news := fun p hp => by
  obtain ⟨a, b, c⟩ := N p (.tail _ hp)
  exact ⟨k _ _ (ne p hp) a, b, c⟩
end
example : ∀ w A s Q E, TZ w A s Q E → TZ w A s Q E := by intro w A s Q E h; w_top off; first | (walk1; fail) | exact h
section
noncomputable def WordIs : Sum Bool Str → Value → Prop
  | .inl b, v => v = .bool b
  | .inr x, v => ∃ t, v = .str x t
noncomputable def wName : Str := Str.ofString "name"
noncomputable def wValue : Str := Str.ofString "value"
noncomputable def setOut (D : DD) (k : Bts) (old : Option Bts) (v : Bts) : Sum Bool Str × DD :=
  if v = badV then (.inr wValue, D) else if (∃ b, old = some b ∧ (getB D k).getD zeroV ≠ b) then (.inl false, D) else if okName k = true then (.inl true, putB D k v) else (.inr wName, D)
theorem setOut_bad {D : DD} {k v : Bts} {old : Option Bts} (h : v = badV) : setOut D k old v = (.inr wValue, D) := if_pos h
theorem setOut_no {D : DD} {k v : Bts} {old : Option Bts} (h : v ≠ badV) (h2 : ∃ b, old = some b ∧ (getB D k).getD zeroV ≠ b) : setOut D k old v = (.inl false, D) := by unfold setOut; rw [if_neg h, if_pos h2]
theorem setOut_yes {D : DD} {k v : Bts} {old : Option Bts} (h : v ≠ badV) (h2 : ∀ b, old = some b → (getB D k).getD zeroV = b) (h3 : okName k = true) : setOut D k old v = (.inl true, putB D k v) := by
  unfold setOut; rw [if_neg h, if_neg (by rintro ⟨b, e, n⟩; exact n (h2 b e)), if_pos h3]
theorem setOut_name {D : DD} {k v : Bts} {old : Option Bts} (h : v ≠ badV) (h2 : ∀ b, old = some b → (getB D k).getD zeroV = b) (h3 : okName k = false) : setOut D k old v = (.inr wName, D) := by
  unfold setOut; rw [if_neg h, if_neg (by rintro ⟨b, e, n⟩; exact n (h2 b e)), if_neg (by rw [h3]; simp)]
theorem bad_last : badV ∈ vals6 := by decide +kernel
theorem okName_mem {k : Bts} (h : okName k = true) : k ∈ names6 := by simpa [okName, names6] using h
theorem vals_ok : ∀ v ∈ vals6, v ≠ badV → v ∈ okVals := by decide +kernel
theorem Good.setOut {D : DD} {k v : Bts} {old : Option Bts} (g : Good D) (hv : v ∈ vals6) : Good (setOut D k old v).2 := by
  unfold Mine.setOut
  split
  · exact g
  split
  · exact g
  split
  · rename_i h1 _ h3; exact g.put (okName_mem h3) (vals_ok v hv h1)
  · exact g
inductive LamAtG (h : Heap) (f9 : Addr) (body : PySem.Expr) (fv : List (Str × Addr)) (gl : List Str) : Prop
  | mk (name qual : Str) (params : Arguments) (scope : Scope) (clos : List (Str × Addr)) (pm : Value) (c' : Addr) (ctv : Value) (e : h.get? f9 = some (kla_obj name qual params body scope clos pm c' ctv)) (cr : h.CodeRec (.ref c') qual) (bd : bindArgs (kla_fn name qual params body scope clos pm (.ref c') ctv) ⟨[], []⟩ = pure [])
    (s1 : scope.isCoroutine = false) (s2 : scope.isGenerator = false) (s3 : scope.kind = .function) (s4 : ∀ x ∈ scope.names, x.2 ≠ .cell) (s5 : ∀ p ∈ fv, scope.names.lookup p.1 = some .free ∧ clos.lookup p.1 = some p.2) (s6 : ∀ x ∈ gl, scope.names.lookup x = some .globalImplicit)
noncomputable abbrev LamAt (h : Heap) (f9 : Addr) (body : PySem.Expr) (fv : List (Str × Addr)) : Prop := LamAtG h f9 body fv []
theorem LamAtG.keep {h h' : Heap} {f9 : Addr} {body : PySem.Expr} {fv : List (Str × Addr)} {gl : List Str} (x : LamAtG h f9 body fv gl) (k : KeepAll h h') : LamAtG h' f9 body fv gl := by
  obtain ⟨name, qual, params, scope, clos, pm, c', ctv, a, b, r1, r2, r3, r4, r5, r6, r7⟩ := x
  exact ⟨name, qual, params, scope, clos, pm, c', ctv, k _ _ a, b.keeps k, r1, r2, r3, r4, r5, r6, r7⟩
theorem LamAtG.lam {h : Heap} {f9 : Addr} {body : PySem.Expr} {fv : List (Str × Addr)} {gl : List Str} (x : LamAtG h f9 body fv gl) : LamAt h f9 body fv := by
  obtain ⟨name, qual, params, scope, clos, pm, c', ctv, a, b, r1, r2, r3, r4, r5, r6, r7⟩ := x
  exact ⟨name, qual, params, scope, clos, pm, c', ctv, a, b, r1, r2, r3, r4, r5, r6, fun _ h => nomatch h⟩
theorem LamAt.keep {h h' : Heap} {f9 : Addr} {body : PySem.Expr} {fv : List (Str × Addr)} (x : LamAt h f9 body fv) (k : KeepAll h h') : LamAt h' f9 body fv := LamAtG.keep x k
theorem LamAt.fn {h : Heap} {f9 : Addr} {body : PySem.Expr} {fv : List (Str × Addr)} (x : LamAt h f9 body fv) : FnAt f9 h := by
  obtain ⟨name, qual, params, scope, clos, pm, c', ctv, a, -⟩ := x
  exact ⟨_, _, _, _, a⟩
section
variable {prog : Program} {w : World} {A : Around} {E : Value → Shared → Prop} {s : Shared} {Q : Value → Shared → Prop}
theorem enter_lamAtG {f9 : Addr} {body : PySem.Expr} {fv : List (Str × Addr)} {gl : List Str} (LA : LamAtG s.heap f9 body fv gl) (hnl : s.heap.NoLimit) (hroom : A.depth < recursionLimit)
    (h : ∀ L' h₁ qual scope clos c', L' = s.heap.objs.size → scope.kind = .function → (∀ p ∈ fv, scope.names.lookup p.1 = some .free ∧ clos.lookup p.1 = some p.2) → (∀ x ∈ gl, scope.names.lookup x = some .globalImplicit) → Fr s.heap L' h₁ (fun _ => none) →
      wpAny (model prog w) (A.deeper (envX qual scope L' f9 (.ref c') clos)) (eval body (envX qual scope L' f9 (.ref c') clos)) Q
        (fun e s' => wpAny (model prog w) (A.deeper (envX qual scope L' f9 (.ref c') clos)) (leaving (envX qual scope L' f9 (.ref c') clos) e) (fun _ s'' => E e s'') (fun e' s'' => E e' s'') s')
        { s with heap := h₁, toks := s.toks }) : wpAny (model prog w) A (call (.ref f9) []) Q E s := by
  obtain ⟨name, qual, params, scope, clos, pm, c', ctv, a, b, r1, r2, r3, r4, r5, r6, r7⟩ := LA
  exact enter_lam a hnl b hroom r1 (fun L' h₁ e F => h L' h₁ qual scope clos c' e r4 r6 r7 F) r2 r3 r4 r5
theorem enter_lamAt {f9 : Addr} {body : PySem.Expr} {fv : List (Str × Addr)} (LA : LamAt s.heap f9 body fv) (hnl : s.heap.NoLimit) (hroom : A.depth < recursionLimit)
    (h : ∀ L' h₁ qual scope clos c', L' = s.heap.objs.size → scope.kind = .function → (∀ p ∈ fv, scope.names.lookup p.1 = some .free ∧ clos.lookup p.1 = some p.2) → Fr s.heap L' h₁ (fun _ => none) →
      wpAny (model prog w) (A.deeper (envX qual scope L' f9 (.ref c') clos)) (eval body (envX qual scope L' f9 (.ref c') clos)) Q
        (fun e s' => wpAny (model prog w) (A.deeper (envX qual scope L' f9 (.ref c') clos)) (leaving (envX qual scope L' f9 (.ref c') clos) e) (fun _ s'' => E e s'') (fun e' s'' => E e' s'') s')
        { s with heap := h₁, toks := s.toks }) : wpAny (model prog w) A (call (.ref f9) []) Q E s := by
  exact enter_lamAtG LA hnl hroom fun L' h₁ qual scope clos c' e k p _ F => h L' h₁ qual scope clos c' e k p F
theorem name_F9 {M : Model} {g : Heap} {L a c : Addr} {m : Str → Option Value} {cn : Str} {cs : Scope} {ccd : Value} {cl : List (Str × Addr)} {x : Str} {pos : Pos} {v : Value} {o : Obj} {fv : List (Str × Addr)} (F : Fr g L s.heap m) (hk : cs.kind = .function) (hf : ∀ p ∈ fv, cs.names.lookup p.1 = some .free ∧ cl.lookup p.1 = some p.2) (hm : (x, c) ∈ fv) (ho : g.get? c = some o) (hd : o.data = .cell (some v))
    (h : Q v s) (hb : (x == ("__debug__" : Str)) = false := by decide) (hn : (x == ("__classdict__" : Str)) = false := by decide) :
    wpAny M A (eval (.Name x pos) (envX cn cs L a ccd cl)) Q E s := wpAny_Name (wpAny_loadName_free hk (hf _ hm).1 (hf _ hm).2 ⟨o, F.keep _ _ ho, hd⟩ h hn) hb
theorem ne_word {r : Sum Bool Str} {a b : Value} (ha : WordIs r a) (hb : WordIs r b) (h : Q (.bool false) s) : wpAny (model prog w) A (compareOp .NotEq a b) Q E s := by
  cases r with
  | inl x => cases ha; cases hb; first | exact ne_bool (by simpa using h) | exact wpAny_of_gives_ne h
  | inr x => obtain ⟨t, rfl⟩ := ha; obtain ⟨u, rfl⟩ := hb; exact ne_str (by simpa using h)
end
end
example : ∀ w A s Q E, TZ w A s Q E → TZ w A s Q E := by intro w A s Q E h; w_top off; first | (walk1; fail) | exact h
section
def gY1.siteTag : Unit := ()
open gY1
example : True := by
  k_with "gY1 call ref" => (k_here; (try dsimp only [List.nil_append, List.cons_append, List.append_nil]); (with_reducible show wpAny _ _ (call (Value.ref 257) _) _ _ _); k_dflt (refine' spec_set ?sX ?sT ?sb ?sr ?su ?sh ?sR ?sV ?sD ?sA ?sF ?sk ?sv ?so ?sl ?sC ?sG ?_ ?_ ?_ ?_; (case sb => exact keep_base (by k_asm) (by k_asm)); (case sX => k_asm); (case sT => k_asm); (case sr => k_room); (case su => k_units); (case sh => k_asm); (case sA => exact Around.frames_deeper (by k_asm)); (case sF => exact frames_push (by k_asm) (FramesOk.keep (by k_asm) (by ktr_rel)) (by first | exact rfl | k_asm) rfl); (case sR => exact refs_at3 (by k_asm) (by k_asm) (by k_asm) rfl (by k_asm) (by k_mem) (by k_mem) (by k_mem) (by k_asm) (by k_asm)); (case sV => k_asm); (case sD => k_asm); (case sk => k_asm); (case sv => k_asm); (case so => (first | exact resNone | exact resSome | k_asm)); (case sl => with_reducible assumption); (case sC => exact ColAt.keep (by k_asm) (by ktr_rel)); (case sG => k_asm)); (all_goals first | ((have hc9 := ColAt.keep (by k_asm) (by ktr_rel)); (with_reducible intro hv' ho' hk' h' g' d' tk' o' kk' ed' bd' cc' ag'); (have off9 := ColAt.off hc9 (by k_asm) (by (repeat' (first | exact all_nil | (with_reducible refine all_cons ?_ ?_))); (all_goals first | exact bobj_cls (by k_asm) | (intro q9; cases q9; done)))); (have ne9 := offAll off9); (simp only [AllNe, and_true] at ne9); (obtain ⟨ps', et', tr'⟩ := id (ColAt.tab cc')); (have hb2' := base_col cc' (by k_asm)); (k_dflt (have N' := news_col2 (by k_asm) (by k_asm) (by k_updF) (by k_asm) cc' kk' ed' off9 et')); (try dsimp only at N'); (k_dflt (have F' := fr_col2 (by k_asm) (by k_asm) (by k_mem) (by k_asm) cc' kk')); (have X' := Frag.In.keeps (by k_asm) hb2'); (have T' := Top.keeps (by k_asm) hb2'); (try k_sweep)) | ((with_reducible intro hv' ho' h' tk' kk'); (have F' := fr_keepAll (by k_asm) kk'); (have N' := news_keepAll (by k_asm) kk'); (try k_sweep)) | ((with_reducible intro hv' ho' hk' h' tk' e' R'); (with_reducible replace R' : RaisedH _ _ _ _ _ := R')) | ((with_reducible intro hv' h' tk' e' R'); (with_reducible replace R' : RaisedH _ _ _ _ _ := R'))))
  trivial
section
variable {p9 : Program} {lo9 : List Str} {w : World} {A : Around} {s : Shared} {base : Heap} {mg mb : Str → Option Value} {mean : ExcName → Option Value} {Q E : Value → Shared → Prop}
theorem MethodCall_9 {M : Model} {env : Env} {x : Str} {px apos pos : Pos} {name : Str} {args : List PySem.Expr} {Q : Value → Shared → Prop} (hp : (apos.endLine == pos.line) = true) (hform : methodCallForm (args.length + 0) (backTo pos (starEach args env)) [] = true)
    (h : wpAny M A (eval (.Name x px) env) (fun ov s₁ => wpAny M A (getMethod ov name (do return (← importBound (.Name x px) env).getD true)) (fun fx s₂ => wpAny M A (callWith pos fx.1 fx.2 (backTo pos (starEach args env)) []) Q E s₂) E s₁) E s) : wpAny M A (eval (.Call (.Attribute (.Name x px) name apos) args [] pos) env) Q E s := by
  refine MethodCall_ (pl := (do return (← importBound (.Name x px) env).getD true)) h ?_
  show (do let ov ← eval (.Name x px) env; standAt apos.atName; methodCall (.Name x px) name apos pos env ov (args.length + 0) (backTo pos (starEach args env)) []) = _
  unfold methodCall
  simp only [hform]
  unfold methodCallPos calleeOf
  simp [hp]
theorem RefsAt.push {base h0 h : Heap} {fs : List Env} {env : Env} {L r dg : Addr} {D : DD} (R : RefsAt w base fs h r dg D) (R0 : RefsAt w base fs h0 r dg D) (k : KeepAll h0 h) (hf : env.frame = some L) (hL : h0.get? L = none) : RefsAt w base (env :: fs) h r dg D := by
  obtain ⟨⟨dx, dp, t1, t2, o, a, b, c, x, n1, n2, n3, sp⟩, lo⟩ := R
  obtain ⟨⟨dx0, dp0, t10, t20, o0, a0, b0, c0, x0, -⟩, -⟩ := R0
  have e1 : instObj 281 dx0 = instObj 281 dx := Option.some.inj ((k _ _ a0).symm.trans a)
  have e2 : dx0 = dx := by injection e1 with _ e2; exact Option.some.inj e2
  subst e2
  refine ⟨⟨dx0, dp, t1, t2, o, a, b, c, x, n1, n2, n3, fun q hq hm => ?_⟩, lo⟩
  obtain ⟨e', he', h2⟩ := List.mem_filterMap.mp hq
  rcases List.mem_cons.mp he' with rfl | he'
  · rw [hf] at h2; cases h2
    rcases List.mem_cons.mp hm with rfl | hm
    · rw [c0] at hL; cases hL
    rcases List.mem_cons.mp hm with rfl | hm
    · rw [a0] at hL; cases hL
    · rw [List.mem_singleton.mp hm, b0] at hL; cases hL
  · exact sp q (List.mem_filterMap.mpr ⟨e', he', h2⟩) hm
theorem cell_off {h : Heap} {dg r dx c : Addr} {o og : Obj} {v : Value} {t1 t2 : Tok} {dp : Addr} {D : DD} (hc : h.get? c = some o) (hd : o.data = .cell (some v)) (e1 : h.get? dg = some og) (hB : BObj w og D) (e2 : h.get? r = some (instObj 281 dx)) (e3 : h.get? dx = some (refsDict w t1 t2 dg dp)) : (hideAll h [dg, r, dx]).get? c = some o := by
  refine hideAll_get _ hc fun hm => ?_
  rcases List.mem_cons.mp hm with rfl | hm
  · rw [e1] at hc; cases hc
    obtain ⟨kvs, ⟨es, ep, he, hd', _⟩, _⟩ := hB
    rw [hd] at hd'; cases hd'
  rcases List.mem_cons.mp hm with rfl | hm
  · rw [e2] at hc; cases hc; cases hd
  · rw [List.mem_singleton.mp hm] at hc; rw [e3] at hc; cases hc; cases hd
example : True := by
  k_with "gY1 eval Call Attribute" => (refine MethodCall_9 (by k_asm) rfl ?_)
  k_with "gY1 eval Name" => (k_here; (refine' name_F9 ?nF ?nk ?nf ?nm ?no ?nd ?_ ?nb ?nn; (case nF => with_reducible assumption); (case nk => with_reducible assumption); (case nf => with_reducible assumption); (case nm => k_mem); (case no => with_reducible assumption); (case nd => with_reducible assumption); (case nb => decide); (case nn => decide)))
  trivial
set_option maxHeartbeats 4000000 in
theorem done_set {g : Heap} {L r dg dx dp f9 : Addr} {t1 t2 : Tok} {m : Str → Option Value} {news : List (Addr × Obj)} {og : Obj} {D : DD} {env9 : Env} {ps3 : Array Value} {u : Obj → List (Addr × Obj)} {v : Obj → Obj → List (Addr × Obj)} {p1 p2 p3 p4 p5 p6 : Pos} {cR cS cO cF : Addr} {oR oS oO oF : Obj} {k fr : Bts} {t tf : Tok} {ov : Value} {old : Option Bts} (X : (hd.heap_1 w.params).In g) (T : Top p9 lo9 mean mg mb g) (F : Fr g L s.heap m) (N : News g L s.heap news) (hA : A.frames = some [env9]) (hk9 : env9.scope.kind = .function) (hf9 : env9.frame = some L) (hroom : A.depth + 40 < recursionLimit) (hun : A.units + 400 < cLine) (hhd : A.handled = none)
    (m1 : (dg, og) ∈ news) (m2 : (r, instObj 281 dx) ∈ news) (m3 : (dx, refsDict w t1 t2 dg dp) ∈ news) (hB : BObj w og D) (lo : (dg == sysModules) = false) (gD : Good D) (mR : (cR, oR) ∈ news) (dR : oR.data = .cell (some (Value.ref r))) (mS : (cS, oS) ∈ news) (dS : oS.data = .cell (some (Value.bytes k.toArray t))) (mO : (cO, oO) ∈ news) (dO : oO.data = .cell (some (ov))) (mF : (cF, oF) ∈ news) (dF : oF.data = .cell (some (Value.bytes fr.toArray tf))) (hG : AllBare s.gens) (LA : LamAt s.heap f9 (.Call (.Attribute (.Name (Str.ofString "refs") p1) (Str.ofString "set_if_equals") p2) [.Name (Str.ofString "spot") p3, .Name (Str.ofString "old") p4, .Name (Str.ofString "fresh") p5] [] p6) [(Str.ofString "refs", cR), (Str.ofString "spot", cS), (Str.ofString "old", cO), (Str.ofString "fresh", cF)]) (mt : (103, tabObj ps3) ∈ news) (ht3 : TriplesOk ps3.toList) (hcol : CodeHd g 107 103) (U : UpdF dg og news u) (V : ∀ o', UpdF 103 (tabObj ps3) (u o') (v o'))
    (hp9 : (p2.endLine == p6.line) = true) (hk : k ∈ names9) (hv : fr ∈ vals6) (ho : ResIs old ov) (hol : ∀ b, old = some b → b.length ≤ 64)
    (h : ∀ v1 h' g' d' tk' o' ps', WordIs (setOut D k old fr).1 v1 → Fr g L h' m → News g L h' (v o' (tabObj ps')) → BObj w o' (setOut D k old fr).2 → TriplesOk ps'.toList → AllBare g' → Q v1 { s with heap := h', gens := g', drawn := d', toks := tk' }) :
    wpAny (model PG w) A (call (.ref 346) [.ref f9]) Q E s := by
  have hfs : FramesOk s.heap [env9] := frames_push (l := []) F trivial hk9 hf9
  have hbf : ∀ b ∈ frs [env9], g.get? b = none := base_frames F hf9 base_self (fun _ h => nomatch h)
  have R : RefsAt w g [env9] s.heap r dg D := refs_at3 no_frs F N hf9 base_self m1 m2 m3 hB lo
  have qmR : s.heap.get? cR = some oR := (N _ mR).1
  have qmS : s.heap.get? cS = some oS := (N _ mS).1
  have qmO : s.heap.get? cO = some oO := (N _ mO).1
  have qmF : s.heap.get? cF = some oF := (N _ mF).1
  have C : ColAt g s.heap := ⟨hcol, (N _ mt).2.2, ps3, (N _ mt).1, ht3⟩
  have hst : ∀ h', Keep [dg, 103] s.heap h' → (∃ o', h'.get? dg = some o' ∧ BObj w o' (setOut D k old fr).2) → ColAt g h' → ∃ o' ps', Fr g L h' m ∧ News g L h' (v o' (tabObj ps')) ∧ BObj w o' (setOut D k old fr).2 ∧ TriplesOk ps'.toList := by
    rintro h' kk ⟨o', e1, b1⟩ c1
    obtain ⟨ps', e2, tr⟩ := c1.tab
    exact ⟨o', ps', fr_turn2 F N m1 mt kk, news_turn2 N U (V o') kk e1 e2 mt, b1, tr⟩
  have same : ∀ h', KeepF [env9] s.heap h' → (setOut D k old fr).2 = D → ∃ o' ps', Fr g L h' m ∧ News g L h' (v o' (tabObj ps')) ∧ BObj w o' (setOut D k old fr).2 ∧ TriplesOk ps'.toList := by
    intro h' kk e
    refine ⟨og, ps3, fr_keepF F kk hf9, ?_, by rw [e]; exact hB, ht3⟩
    have N2 := news_keepF N kk hf9
    have e1 : v og (tabObj ps3) = news := by
      obtain ⟨own, rest, q1, q2, -⟩ := U.split
      obtain ⟨own2, rest2, q3, q4, -⟩ := (V og).split
      rw [q4, ← q3, q2, ← q1]
    rw [e1]; exact N2
  refine spec_done (w := w) (base := g) (Ret := fun fs v1 h h' => WordIs (setOut D k old fr).1 v1 ∧ Keep [dg, 103] h h' ∧ (∃ o', h'.get? dg = some o' ∧ BObj w o' (setOut D k old fr).2) ∧ ColAt g h')
    (Rais := fun c => (c = .ref 31 ∧ setOut D k old fr = (.inr wName, D)) ∨ (c = .type "ValueError" ∧ setOut D k old fr = (.inr wValue, D))) X T (keep_base F base_self) (by omega) (by omega) hhd hA hfs hbf ?mono ?hr LA.fn ?deed ?ok ?bad
  case mono =>
    rintro env L1 v1 h0 h1 h2 hf hL kk ⟨a, b, c, d⟩
    exact ⟨a, fun q o n e => b q o n (kk q o e), c, d⟩
  case hr =>
    rintro c (⟨rfl, -⟩ | ⟨rfl, -⟩) <;> simp [okCls]
  case ok =>
    rintro v1 h' g' d' tk' ag ⟨a, b, c, d⟩
    obtain ⟨o', ps', z1, z2, z3, z4⟩ := hst h' b c d
    exact h v1 h' g' d' tk' o' ps' a z1 z2 z3 z4 ag
  case bad =>
    rintro c h' tk' t' hc kk
    have e : (setOut D k old fr).2 = D := by rcases hc with ⟨-, e⟩ | ⟨-, e⟩ <;> rw [e]
    obtain ⟨o', ps', z1, z2, z3, z4⟩ := same h' kk e
    refine h _ h' s.gens s.drawn tk' o' ps' ?_ z1 z2 z3 z4 hG
    rcases hc with ⟨rfl, e⟩ | ⟨rfl, e⟩ <;> rw [e] <;> exact ⟨_, rfl⟩
  case deed =>
    refine' fun A' env L1 s1 Q1 E1 hA1 hd1 hu1 hh1 hfs1 hg1 ho1 hbf1 hf1 hL1 hk1 hret hrais => ?_
    have hb1 : KeepAll g s1.heap := fun b o e => hk1 b o (F.keep b o e)
    have R1 := (R.keep hk1).push R hk1 hf1 hL1
    have C1 := C.keep hk1
    have hG1 : AllBare s1.gens := by rw [hg1]; exact hG
    refine enter_lamAt (LA.keep hk1) ((T.keeps hb1).nolimit) (by omega) fun L' h' qual scope clos c' hL hks hfv F' => ?_
    obtain ⟨dx, dp, t1, t2, o, F1, N1, X1, T1, hB, lo, n1, n2, n3, e1, e2, e3, hbg, sp⟩ := R1.open F' X T hb1
    clear F'
    have cmR := cell_off (hk1 _ _ qmR) dR e1 hB e2 e3
    have cmS := cell_off (hk1 _ _ qmS) dS e1 hB e2 e3
    have cmO := cell_off (hk1 _ _ qmO) dO e1 hB e2 e3
    have cmF := cell_off (hk1 _ _ qmF) dF e1 hB e2 e3
    clear R C hst same
    have gV := gD.vals
    have gL := gD.len100
    (try dsimp only)
    (try k_fold)
    k_steps
    · exact hret _ _ _ _ _ (by k_asm) ⟨by rw [setOut_yes (by k_asm) (by k_asm) (by k_asm)]; exact rfl, (refs_turnC (by k_asm) (by k_asm) (by k_mem) (by k_mem) (by k_asm) (by k_asm)), ⟨_, (News.get (by k_asm) (by k_mem)), by rw [setOut_yes (by k_asm) (by k_asm) (by k_asm)]; assumption⟩, ColAt.at (by k_asm) (News.get (by k_asm) (by k_mem)) (by k_asm)⟩
    · exact hret _ _ _ _ _ hG1 ⟨by rw [setOut_no (by k_asm) (by k_asm)]; exact rfl, fun b o n e => (by ktr_rel : KeepAll _ _) b o e, ⟨_, (News.get (by k_asm) (by k_mem)), by rw [setOut_no (by k_asm) (by k_asm)]; assumption⟩, ColAt.keep (by k_asm) (by ktr_rel)⟩
    · exact leave_on hA1 rfl (hL ▸ fresh_size _) (by ktr_rel) (by k_asm) fun _ R => hrais _ _ _ _ (.inl ⟨rfl, setOut_name (by k_asm) (by k_asm) (by k_asm)⟩) R
    · exact leave_on hA1 rfl (hL ▸ fresh_size _) (by ktr_rel) (by k_asm) fun _ R => hrais _ _ _ _ (.inr ⟨rfl, setOut_bad (by k_asm)⟩) R
end
end
example : ∀ w A s Q E, TZ w A s Q E → TZ w A s Q E := by intro w A s Q E h; w_top off; first | (walk1; fail) | exact h
section
theorem splitB_len {x : UInt8} : ∀ b : Bts, (splitB x b).length ≤ b.length + 1
  | [] => by simp [splitB]
  | y :: r => by
    have ih := splitB_len (x := x) r
    rw [splitB]
    split
    · simp; omega
    · split
      · rename_i h0 t e
        rw [e] at ih; simp at ih ⊢; omega
      · simp
theorem len_lst {w : World} {A : Around} {E : Value → Shared → Prop} {s : Shared} {l : Addr} {vs : List Value} {ps : List Bts} {Q : Value → Shared → Prop} (hl : s.heap.IsList l vs.toArray) (hba : BytesAre vs ps) (hz : ps.length ≤ 1000)
    (h : ∀ t' k, Q (.int ps.length t') { s with toks := k }) : wpAny (model PG w) A (call (.builtin "len") [.ref l]) Q E s := by
  have e : (vs.toArray.size : Int) = ps.length := by rw [List.size_toArray, hba.length]
  refine call_len_list hl (by rw [e]; omega) ?_
  rw [e]; exact h _ _
noncomputable def octBad (c : UInt8) : Bool := decide ((c.toNat : Int) ≤ 32) || decide ((c.toNat : Int) = 127) || ([126, 94, 58, 63, 42, 91, 92] : Bts).contains c
noncomputable def partOk (p : Bts) : Bool := !(p == []) && !(sliceB p none (some 1) == [46]) && !(sliceB p (some (-5)) none == [46, 108, 111, 99, 107])
noncomputable def wellB (b : Bts) : Bool := !(decide ((splitB 47 b).length < 2)) && !(sliceB b (some (-1)) none == [46]) && !infixB [46, 46] b && !infixB [64, 123] b && (splitB 47 b).all partOk && !b.any octBad
theorem well_len {b : Bts} (h : ((splitB 47 b).length : Int) < 2) : wellB b = false := by
  have e1 : decide ((splitB 47 b).length < 2) = true := by rw [decide_eq_true_eq]; omega
  unfold wellB; rw [e1]; rfl
theorem part_no {p : Bts} (h : (p == []) = true ∨ (sliceB p none (some 1) == [46]) = true ∨ (sliceB p (some (-5)) none == [46, 108, 111, 99, 107]) = true) : partOk p = false := by
  unfold partOk
  rcases h with e | e | e <;> rw [e] <;> simp
theorem part_yes {p : Bts} (a : (p == []) = false) (b : (sliceB p none (some 1) == [46]) = false) (c : (sliceB p (some (-5)) none == [46, 108, 111, 99, 107]) = false) : partOk p = true := by
  unfold partOk; rw [a, b, c]; rfl
theorem oct_no {c : UInt8} (h : (c.toNat : Int) ≤ 32 ∨ (c.toNat : Int) = 127 ∨ ([126, 94, 58, 63, 42, 91, 92] : Bts).contains c = true) : octBad c = true := by
  unfold octBad
  rcases h with e | e | e
  · simp [e]
  · simp [e]
  · rw [e]; simp
theorem oct_yes {c : UInt8} (a : ¬ (c.toNat : Int) ≤ 32) (b : (c.toNat : Int) ≠ 127) (d : ([126, 94, 58, 63, 42, 91, 92] : Bts).contains c = false) : octBad c = false := by
  unfold octBad; rw [d, decide_eq_false a, decide_eq_false b]; rfl
theorem any_oct {b : Bts} {i : Nat} {c : UInt8} (h : b[i]? = some c) (hb : octBad c = true) : b.any octBad = true := List.any_eq_true.mpr ⟨c, List.mem_of_getElem? h, hb⟩
theorem oct_step {b : Bts} {i : Nat} {c : UInt8} (h : b[i]? = some c) (ht : (b.take i).any octBad = false) (e : octBad c = false) : (b.take (i + 1)).any octBad = false := by
  rw [List.take_add_one, h, List.any_append, ht]
  simp [e]
def gF6.siteTag : Unit := ()
open gF6
section
variable {p9 : Program} {lo9 : List Str} {w : World} {A : Around} {s : Shared} {base : Heap} {mg mb : Str → Option Value} {mean : ExcName → Option Value} {Q E : Value → Shared → Prop}
example : True := by
  k_with "gF6 call builtin:len" => ((with_reducible show wpAny _ _ (call (Value.builtin "len") [Value.ref _]) _ _ _); (refine len_lst (News.isList (by k_asm) (by k_mem)) (by k_asm) (by k_asm) ?_); intro _ _)
  k_with "gF6 exec For Name Name cons nil" => (with_unfolding_all refine for_free ?_)
  k_with "gF6 pyIter ref" => (refine iter_stopF ?_)
  k_with "gF6 pyIter bytes" => (refine iter_stopF ?_)
  k_with "gF6 compareOp In int bytes" => (refine in_c ?_)
  trivial
set_option maxHeartbeats 4000000 in
theorem spec_well {b : Bts} {t : Tok} (X : (hd.heap_1 w.params).In base) (T : Top p9 lo9 mean mg mb base) (hb : KeepAll base s.heap) (hroom : A.depth + 6 < recursionLimit) (hun : A.units + 60 < cLine) (hhd : A.handled = none) (hb0 : b.length ≤ 64)
    (h : ∀ h' tk', KeepAll s.heap h' → Q (.bool (wellB b)) { s with heap := h', toks := tk' }) :
    wpAny (model PG w) A (call (.ref 318) [.bytes b.toArray t]) Q E s := by
  have h9 : ∀ h' tk', KeepAll s.heap h' → wellB b = false → Q (.bool false) { s with heap := h', toks := tk' } := fun h' tk' k e => by have := h h' tk' k; rwa [e] at this
  refine wpAny_call ?_
  refine' enter_def (binds := [(Str.ofString "text", Value.bytes b.toArray t)]) (X.keeps hb) (T.keeps hb) ?k6 ?k7 ?k8 ?k9 ?kB ?_ ?c2 ?c3 ?c4 ?c5
  case k6 => k_is
  case k7 => k_is
  case k8 => omega
  case k9 => exact BindsTo.of_eq rfl
  case kB => exact locs rfl
  case c2 => exact rfl
  case c3 => exact rfl
  case c4 => exact rfl
  case c5 => decide
  intro L' h' hL F'
  have N' : News s.heap L' h' [] := News.nil
  have X' := X.keeps hb
  have T' := T.keeps hb
  have hrefl : KeepAll s.heap s.heap := fun _ _ e => e
  clear X T hb
  (try dsimp only)
  (try k_fold)
  k_steps
  refine split_N (Nat.le_trans hb0 (by decide)) F' N' fun l vs h4 tk4 hba F4 N4 hlt4 => ?_
  have hle : (splitB 47 b).length ≤ 1000 := Nat.le_trans (splitB_len b) (by omega)
  clear F' N'
  k_steps
  · rename _ < (2 : Int) => c1
    exact h9 _ _ (Fr.keep (by k_asm)) (well_len c1)
  · rename _ = true => c1
    exact h9 _ _ (Fr.keep (by k_asm)) (by unfold wellB; rw [c1]; simp)
  · rename _ = true => c1
    exact h9 _ _ (Fr.keep (by k_asm)) (by unfold wellB; rw [c1]; simp)
  · rename _ = true => c1
    exact h9 _ _ (Fr.keep (by k_asm)) (by unfold wellB; rw [c1]; simp)
  · rename ¬ _ < (2 : Int) => c1
    rename (_ == [46]) = false => c2
    rename infixB [46, 46] b = false => c3
    rename infixB [64, 123] b = false => c4
    rename Fr _ _ _ _ => F9
    rename News _ _ _ _ => N9
    have e1 : decide ((splitB 47 b).length < 2) = false := by
      rw [decide_eq_false_iff_not]; omega
    have hall : ∀ x y, (splitB 47 b).all partOk = x → b.any octBad = y → wellB b = (x && !y) := fun x y ex ey => by unfold wellB; rw [e1, c2, c3, c4, ex, ey]; cases x <;> cases y <;> rfl
    show wpAny _ _ (pyIter (Value.ref l)) _ _ _
    refine for_listL (by k_asm) F9 N9 (.head _) ⟨_, (N9 _ (.head _)).1, rfl, _, rfl⟩ (J := fun i m1 => ∃ r1 : Option Value, m1 = (fun y => if y = Str.ofString "part" then r1 else if y = Str.ofString "parts" then some (Value.ref l) else List.lookup y [(Str.ofString "text", Value.bytes b.toArray t)].reverse) ∧ ((splitB 47 b).take i).all partOk = true) ⟨none, funext (by intro y9; by_cases c0 : y9 = Str.ofString "part"; (subst c0; with_unfolding_all rfl); by_cases c1 : y9 = Str.ofString "parts"; (subst c1; with_unfolding_all rfl); simp only [if_neg c0, if_neg c1]), rfl⟩
      (fun v s' => v = .bool false ∧ (splitB 47 b).all partOk = false ∧ ∃ h' tk', s' = { s with heap := h', toks := tk' } ∧ KeepAll s.heap h') ?_ ?_ ?_
    · rintro v s' ⟨rfl, hb9, h', tk', rfl, kk⟩
      exact h9 _ _ kk (by rw [hall _ _ hb9 rfl]; rfl)
    · rintro Q9 E9 i v it oi m1 h1 tk1 hRq hv ⟨q1, rfl, hok⟩ F1 N1 hlt1
      obtain ⟨p, tp, hp, rfl⟩ := hba.get hv
      have hp64 : p.length ≤ 16777216 := Nat.le_trans (splitB_size (List.mem_of_getElem? hp)) (Nat.le_trans hb0 (by decide))
      clear F9 N9
      refine turnP fun P hP => ?_
      k_steps
      · exact hRq _ _ ⟨rfl, all_no hp (part_no (.inl (by k_asm))), _, _, rfl, Fr.keep (by k_asm)⟩
      · exact hRq _ _ ⟨rfl, all_no hp (part_no (.inr (.inl (by k_asm)))), _, _, rfl, Fr.keep (by k_asm)⟩
      · exact hRq _ _ ⟨rfl, all_no hp (part_no (.inr (.inr (by k_asm)))), _, _, rfl, Fr.keep (by k_asm)⟩
      · refine hP _ ⟨_, _, _, _, rfl, by k_asm, by k_asm, fun p9 hp9 => ?_, ⟨⟨_, funext (by intro y9; by_cases c0 : y9 = Str.ofString "part"; (subst c0; with_unfolding_all rfl); by_cases c1 : y9 = Str.ofString "parts"; (subst c1; with_unfolding_all rfl); simp only [if_neg c0, if_neg c1]), all_step hp hok (part_yes (by k_asm) (by k_asm) (by k_asm))⟩, rfl⟩⟩
        exact Nat.ne_of_lt (hlt1 p9 hp9)
    · rintro m' h' tk' ⟨r1, rfl, hok⟩ F1 N1
      rw [hba.length, List.take_length] at hok
      clear F9 N9
      k_steps
      rename Fr _ _ _ _ => F9
      rename News _ _ _ _ => N9
      show wpAny _ _ (pyIter (Value.bytes _ _)) _ _ _
      refine for_bytesL (by k_asm) F9 N9 (J := fun i m1 => ∃ r2 : Option Value, m1 = (fun y => if y = Str.ofString "octet" then r2 else if y = Str.ofString "part" then r1 else if y = Str.ofString "parts" then some (Value.ref l) else List.lookup y [(Str.ofString "text", Value.bytes b.toArray t)].reverse) ∧ (b.take i).any octBad = false) ⟨none, funext (by intro y9; by_cases c0 : y9 = Str.ofString "octet"; (subst c0; with_unfolding_all rfl); by_cases c1 : y9 = Str.ofString "part"; (subst c1; with_unfolding_all rfl); by_cases c2 : y9 = Str.ofString "parts"; (subst c2; with_unfolding_all rfl); simp only [if_neg c0, if_neg c1, if_neg c2]), rfl⟩
        (fun v s' => v = .bool false ∧ b.any octBad = true ∧ ∃ h' tk', s' = { s with heap := h', toks := tk' } ∧ KeepAll s.heap h') ?_ ?_ ?_
      · rintro v s' ⟨rfl, hb9, h', tk', rfl, kk⟩
        exact h9 _ _ kk (by rw [hall _ _ hok hb9]; rfl)
      · rintro Q9 E9 i c u it oi m1 h1 tk1 hRq hc ⟨q2, rfl, hno⟩ F1 N1 hlt1
        have hc9 : b[i]? = some c := by simpa using hc
        clear F9 N9
        refine turnP fun P hP => ?_
        k_steps
        · exact hRq _ _ ⟨rfl, any_oct hc9 (oct_no (.inl (by k_asm))), _, _, rfl, Fr.keep (by k_asm)⟩
        · exact hRq _ _ ⟨rfl, any_oct hc9 (oct_no (.inr (.inl (by k_asm)))), _, _, rfl, Fr.keep (by k_asm)⟩
        · exact hRq _ _ ⟨rfl, any_oct hc9 (oct_no (.inr (.inr (by k_asm)))), _, _, rfl, Fr.keep (by k_asm)⟩
        · refine hP _ ⟨_, _, _, _, rfl, by k_asm, by k_asm, fun p9 hp9 => ?_, ⟨⟨_, funext (by intro y9; by_cases c0 : y9 = Str.ofString "octet"; (subst c0; with_unfolding_all rfl); by_cases c1 : y9 = Str.ofString "part"; (subst c1; with_unfolding_all rfl); by_cases c2 : y9 = Str.ofString "parts"; (subst c2; with_unfolding_all rfl); simp only [if_neg c0, if_neg c1, if_neg c2]), oct_step hc9 hno (oct_yes (by k_asm) (by k_asm) (by k_asm))⟩, rfl⟩⟩
          exact Nat.ne_of_lt (hlt1 p9 hp9)
      · rintro m' h' tk' ⟨r2, rfl, hno⟩ F1 N1
        rw [show (b.toArray.size) = b.length from by simp, List.take_length] at hno
        clear F9 N9
        k_steps
        have h8 := h _ tk' (Fr.keep F1)
        rw [hall _ _ hok hno] at h8
        exact h8
end
end
example : ∀ w A s Q E, TZ w A s Q E → TZ w A s Q E := by intro w A s Q E h; w_top off; first | (walk1; fail) | exact h
section
/- the plain law: both tell the same -/
theorem split_two (b : Bts) : infixB [47] b = !(decide ((splitB 47 b).length < 2)) := by
  rw [infix_one]
  have key : ∀ b : Bts, b.contains 47 = true ↔ 2 ≤ (splitB 47 b).length := fun b => by
    induction b with
    | nil => simp [splitB]
    | cons y r ih =>
      rw [splitB]
      by_cases hy : y = 47
      · subst hy
        have : 1 ≤ (splitB 47 r).length := by
          cases r with
          | nil => simp [splitB]
          | cons z r => rw [splitB]; split; simp; split <;> simp
        simp; omega
      · rw [if_neg hy]
        have e : (y :: r).contains 47 = r.contains 47 := by simp [List.contains_cons, Ne.symm hy]
        rw [e, ih]
        cases hs : splitB 47 r with
        | nil =>
          exfalso
          cases r with
          | nil => simp [splitB] at hs
          | cons z r => rw [splitB] at hs; split at hs; simp at hs; split at hs <;> simp at hs
        | cons h t => simp
  rw [Bool.eq_iff_iff, key b]
  simp
theorem split_ne (b : Bts) : splitB 47 b ≠ [] := by
  cases b with
  | nil => simp [splitB]
  | cons y r => rw [splitB]; split; simp; split <;> simp
theorem split_end : ∀ r : Bts, ∃ l, splitB 47 (r ++ [47]) = l ++ [[]] ∧ l ≠ []
  | [] => ⟨[[]], by simp [splitB], by simp⟩
  | y :: r => by
    obtain ⟨l, e, hne⟩ := split_end r
    rw [List.cons_append, splitB, e]
    split
    · exact ⟨[] :: l, rfl, by simp⟩
    · cases l with
      | nil => exact absurd rfl hne
      | cons h t => exact ⟨(y :: h) :: t, rfl, by simp⟩
theorem comp_part (p : Bts) : compOk p = partOk p := by
  unfold compOk partOk
  have e1 : p.isEmpty = (p == []) := by cases p <;> rfl
  have e2 : [46].isPrefixOf p = (sliceB p none (some 1) == [46]) := by
    have : sliceB p none (some 1) = p.take 1 := sliceB_to p 1
    rw [this]
    cases p with
    | nil => rfl
    | cons y r =>
      show ((46 : UInt8) == y && true) = (y :: List.take 0 r == [46])
      rw [Bool.and_true, List.take_zero, Bool.eq_iff_iff]
      simp [eq_comm (a := y)]
  have e3 : [46, 108, 111, 99, 107].isSuffixOf p = (sliceB p (some (-5)) none == [46, 108, 111, 99, 107]) := by
    have : sliceB p (some (-5)) none = p.drop (p.length - 5) := sliceB_last p 5 (by decide)
    rw [this, Bool.eq_iff_iff, List.isSuffixOf_iff_suffix, List.suffix_iff_eq_drop, beq_iff_eq]
    exact eq_comm
  rw [e1, e2, e3]
theorem oct_badC (c : UInt8) : octBad c = (badC c || (c == 92)) := by
  have key : ∀ n : Fin 256, octBad (UInt8.ofNat n.val) = (badC (UInt8.ofNat n.val) || (UInt8.ofNat n.val == 92)) := by decide +kernel
  have := key ⟨c.toNat, c.toNat_lt⟩
  simpa using this
theorem any_octB (b : Bts) : b.any octBad = (b.any badC || b.contains 92) := by
  induction b with
  | nil => rfl
  | cons y r ih =>
    rw [List.any_cons, List.any_cons, List.contains_cons, ih, oct_badC, show ((92 : UInt8) == y) = (y == 92) from by rw [Bool.eq_iff_iff, beq_iff_eq, beq_iff_eq]; exact eq_comm]
    cases badC y <;> cases (y == 92) <;> cases r.any badC <;> cases r.contains 92 <;> rfl
theorem fmt_well (b : Bts) : fmtB b = wellB b := by
  unfold fmtB wellB
  rw [split_two b, any_octB b, infix_one 92, show compOk = partOk from funext comp_part]
  rcases List.eq_nil_or_concat b with rfl | ⟨r, x, rfl⟩
  · rfl
  rw [List.concat_eq_append]
  have e1 : sliceB (r ++ [x]) (some (-1)) none = [x] := by
    have : sliceB (r ++ [x]) (some (-1)) none = (r ++ [x]).drop ((r ++ [x]).length - 1) := sliceB_last (r ++ [x]) 1 (by decide)
    rw [this]; simp
  have e2 : (r ++ [x]).getLastD 0 = x := by simp
  rw [e1, e2]
  by_cases h47 : x = 47
  · subst h47
    obtain ⟨l, e, -⟩ := split_end r
    have : (splitB 47 (r ++ [47])).all partOk = false := by
      rw [e, List.all_append]; simp [partOk]
    rw [this]; simp
  by_cases h46 : x = 46
  · subst h46; simp
  have e3 : ([47, 46] : Bts).contains x = false := by
    simp [h47, h46]
  have e4 : ([x] == ([46] : Bts)) = false := by simp [h46]
  rw [e3, e4]
  by_cases h64 : r ++ [x] = [64]
  · rw [h64]; rfl
  have e5 : ((r ++ [x]) == ([64] : Bts)) = false := by simpa using h64
  rw [e5]
  cases decide ((splitB 47 (r ++ [x])).length < 2) <;> cases infixB [46, 46] (r ++ [x]) <;> cases infixB [64, 123] (r ++ [x]) <;> cases (r ++ [x]).any badC <;> cases (r ++ [x]).contains 92 <;> cases (splitB 47 (r ++ [x])).all partOk <;> rfl
end
example : ∀ w A s Q E, TZ w A s Q E → TZ w A s Q E := by intro w A s Q E h; w_top off; first | (walk1; fail) | exact h
section
noncomputable def OffFix (I lD dp rr dx dh dg L : Addr) (a : Addr) : Prop := ∀ b ∈ ([I, lD, dp, rr, dx, dh, dg, L + 1 + 1 + 1 + 1 + 1, L + 1 + 1 + 1 + 1, L + 1 + 1 + 1, L + 1 + 1, L + 1, 348, 103] : List Nat), @Ne Nat a b
structure Apart (I lD dp rr dx dh dg L : Addr) (codes : List (Addr × Obj)) : Prop where
  a1 : @LT.lt Nat _ 103 L
  a2 : @LT.lt Nat _ 348 L
  a3 : @LT.lt Nat _ (L + 5) dg
  a4 : @LT.lt Nat _ dg dh
  a5 : @LT.lt Nat _ dh rr
  a6 : @LT.lt Nat _ dh dx
  a7 : @Ne Nat rr dx
  a8 : @LT.lt Nat _ rr dp
  a9 : @LT.lt Nat _ dx dp
  a10 : @LT.lt Nat _ dp lD
  a11 : @LE.le Nat _ lD I
  a12 : ∀ p ∈ codes, OffFix I lD dp rr dx dh dg L p.1
noncomputable abbrev LNews (I lD dp rr dx dh dg L : Addr) (oI ol op or ox oh og oR oO oG oF oS o4 o1 : Obj) (codes : List (Addr × Obj)) : List (Addr × Obj) :=
  (I, oI) :: (lD, ol) :: (dp, op) :: (rr, or) :: (dx, ox) :: (dh, oh) :: (dg, og) :: (L + 1 + 1 + 1 + 1 + 1, oR) :: (L + 1 + 1 + 1 + 1, oO) :: (L + 1 + 1 + 1, oG) :: (L + 1 + 1, oF) :: (L + 1, oS) :: (348, o4) :: (103, o1) :: codes
section
variable {I lD dp rr dx dh dg L : Addr} {oI ol op or ox oh og oR oO oG oF oS o4 o1 : Obj} {codes : List (Addr × Obj)}
theorem codes_ne {d : Addr} (h : ∀ p ∈ codes, OffFix I lD dp rr dx dh dg L p.1) (hd : d ∈ ([I, lD, dp, rr, dx, dh, dg, L + 1 + 1 + 1 + 1 + 1, L + 1 + 1 + 1 + 1, L + 1 + 1 + 1, L + 1 + 1, L + 1, 348, 103] : List Nat)) : ∀ p ∈ codes, p.1 ≠ d := fun p hp => h p hp d hd
theorem ncons {d : Addr} {x : Addr × Obj} {l : List (Addr × Obj)} (a : @Ne Nat x.1 d) (r : ∀ p ∈ l, p.1 ≠ d) : ∀ p ∈ x :: l, p.1 ≠ d := fun p hp => by
  rcases List.mem_cons.mp hp with rfl | hp
  · exact a
  · exact r p hp
theorem upd_mid {d : Addr} {o : Obj} {post : List (Addr × Obj)} (h2 : ∀ p ∈ post, p.1 ≠ d) : ∀ {pre : List (Addr × Obj)}, (∀ p ∈ pre, p.1 ≠ d) → UpdF d o (pre ++ (d, o) :: post) (fun o' => pre ++ (d, o') :: post)
  | [], _ => .head h2
  | x :: r, h1 => .tail (h1 x (.head _)) (upd_mid h2 fun p hp => h1 p (.tail _ hp))
theorem upd_low {d : Addr} {o : Obj} {pre post : List (Addr × Obj)} (hd : @LT.lt Nat _ d lD) (hI : @LE.le Nat _ lD I) (P : ((pre ++ (d, o) :: post).map Prod.fst).Pairwise (@Ne Nat)) (C : ∀ p ∈ codes, @Ne Nat p.1 d) :
    UpdF d o ((I, oI) :: (lD, ol) :: (pre ++ (d, o) :: (post ++ codes))) (fun o' => (I, oI) :: (lD, ol) :: (pre ++ (d, o') :: (post ++ codes))) := by
  have P1 := List.pairwise_append.mp (List.pairwise_map.mp P)
  refine .tail (Nat.ne_of_gt (Nat.lt_of_lt_of_le hd hI)) (.tail (Nat.ne_of_gt hd) (upd_mid (fun p hp => ?_) fun p hp => P1.2.2 p hp (d, o) (.head _)))
  rcases List.mem_append.mp hp with hp | hp
  · exact Ne.symm (List.rel_of_pairwise_cons P1.2.1 hp)
  · exact C p hp
theorem dec_cons {a b : Nat} {l : List Nat} (h : b < a) (P : (b :: l).Pairwise (· > ·)) : (a :: b :: l).Pairwise (· > ·) :=
  List.pairwise_cons.mpr ⟨fun c hc => by
    rcases List.mem_cons.mp hc with rfl | hc
    · exact h
    · exact Nat.lt_trans (List.rel_of_pairwise_cons P hc) h, P⟩
theorem Apart.chain (ap : Apart I lD dp rr dx dh dg L codes) {x : Addr} (h : @LT.lt Nat _ dh x) (h2 : @LT.lt Nat _ x dp) : List.Pairwise (α := Nat) (· > ·) [lD, dp, x, dh, dg, L + 1 + 1 + 1 + 1 + 1, L + 1 + 1 + 1 + 1, L + 1 + 1 + 1, L + 1 + 1, L + 1, 348, 103] :=
  dec_cons ap.a10 (dec_cons h2 (dec_cons h (dec_cons ap.a4 (dec_cons ap.a3 (dec_cons (Nat.lt_succ_self _) (dec_cons (Nat.lt_succ_self _) (dec_cons (Nat.lt_succ_self _) (dec_cons (Nat.lt_succ_self _) (dec_cons (Nat.lt_succ_of_lt ap.a2) (dec_cons (by decide) (List.pairwise_singleton _ _)))))))))))
theorem Apart.low (ap : Apart I lD dp rr dx dh dg L codes) : ∀ b ∈ ([dp, rr, dx, dh, dg, L + 1 + 1 + 1 + 1 + 1, L + 1 + 1 + 1 + 1, L + 1 + 1 + 1, L + 1 + 1, L + 1, 348, 103] : List Nat), @LT.lt Nat _ b lD := fun b hb => by
  have P1 := ap.chain ap.a5 ap.a8
  have P2 := ap.chain ap.a6 ap.a9
  rcases List.mem_cons.mp hb with rfl | hb
  · exact ap.a10
  rcases List.mem_cons.mp hb with rfl | hb
  · exact List.rel_of_pairwise_cons P1 (.tail _ (.head _))
  exact List.rel_of_pairwise_cons P2 (.tail _ hb)
theorem Apart.pw (ap : Apart I lD dp rr dx dh dg L codes) : List.Pairwise (@Ne Nat) [dp, rr, dx, dh, dg, L + 1 + 1 + 1 + 1 + 1, L + 1 + 1 + 1 + 1, L + 1 + 1 + 1, L + 1 + 1, L + 1, 348, 103] := by
  have P1 := ((List.pairwise_cons.mp (ap.chain ap.a5 ap.a8)).2).imp (S := @Ne Nat) fun h => Nat.ne_of_gt h
  have P2 := ((List.pairwise_cons.mp (ap.chain ap.a6 ap.a9)).2).imp (S := @Ne Nat) fun h => Nat.ne_of_gt h
  have Q1 := List.pairwise_cons.mp P1
  have Q2 := List.pairwise_cons.mp P2
  refine List.pairwise_cons.mpr ⟨fun b hb => ?_, List.pairwise_cons.mpr ⟨fun b hb => ?_, Q2.2⟩⟩
  · rcases List.mem_cons.mp hb with rfl | hb
    · exact Q1.1 _ (.head _)
    · exact Q2.1 b hb
  · rcases List.mem_cons.mp hb with rfl | hb
    · exact ap.a7
    · exact List.rel_of_pairwise_cons Q1.2 hb
theorem updS (ap : Apart I lD dp rr dx dh dg L codes) : UpdF (L + 1) oS (LNews I lD dp rr dx dh dg L oI ol op or ox oh og oR oO oG oF oS o4 o1 codes) (fun oS => LNews I lD dp rr dx dh dg L oI ol op or ox oh og oR oO oG oF oS o4 o1 codes) :=
  upd_low (pre := [(dp, op), (rr, or), (dx, ox), (dh, oh), (dg, og), (L + 1 + 1 + 1 + 1 + 1, oR), (L + 1 + 1 + 1 + 1, oO), (L + 1 + 1 + 1, oG), (L + 1 + 1, oF)]) (post := [(348, o4), (103, o1)]) (ap.low _ (by k_mem)) ap.a11 ap.pw (codes_ne ap.a12 (by k_mem))
theorem updFr (ap : Apart I lD dp rr dx dh dg L codes) : UpdF (L + 1 + 1) oF (LNews I lD dp rr dx dh dg L oI ol op or ox oh og oR oO oG oF oS o4 o1 codes) (fun oF => LNews I lD dp rr dx dh dg L oI ol op or ox oh og oR oO oG oF oS o4 o1 codes) :=
  upd_low (pre := [(dp, op), (rr, or), (dx, ox), (dh, oh), (dg, og), (L + 1 + 1 + 1 + 1 + 1, oR), (L + 1 + 1 + 1 + 1, oO), (L + 1 + 1 + 1, oG)]) (post := [(L + 1, oS), (348, o4), (103, o1)]) (ap.low _ (by k_mem)) ap.a11 ap.pw (codes_ne ap.a12 (by k_mem))
theorem updG (ap : Apart I lD dp rr dx dh dg L codes) : UpdF (L + 1 + 1 + 1) oG (LNews I lD dp rr dx dh dg L oI ol op or ox oh og oR oO oG oF oS o4 o1 codes) (fun oG => LNews I lD dp rr dx dh dg L oI ol op or ox oh og oR oO oG oF oS o4 o1 codes) :=
  upd_low (pre := [(dp, op), (rr, or), (dx, ox), (dh, oh), (dg, og), (L + 1 + 1 + 1 + 1 + 1, oR), (L + 1 + 1 + 1 + 1, oO)]) (post := [(L + 1 + 1, oF), (L + 1, oS), (348, o4), (103, o1)]) (ap.low _ (by k_mem)) ap.a11 ap.pw (codes_ne ap.a12 (by k_mem))
theorem updO (ap : Apart I lD dp rr dx dh dg L codes) : UpdF (L + 1 + 1 + 1 + 1) oO (LNews I lD dp rr dx dh dg L oI ol op or ox oh og oR oO oG oF oS o4 o1 codes) (fun oO => LNews I lD dp rr dx dh dg L oI ol op or ox oh og oR oO oG oF oS o4 o1 codes) :=
  upd_low (pre := [(dp, op), (rr, or), (dx, ox), (dh, oh), (dg, og), (L + 1 + 1 + 1 + 1 + 1, oR)]) (post := [(L + 1 + 1 + 1, oG), (L + 1 + 1, oF), (L + 1, oS), (348, o4), (103, o1)]) (ap.low _ (by k_mem)) ap.a11 ap.pw (codes_ne ap.a12 (by k_mem))
theorem updH (ap : Apart I lD dp rr dx dh dg L codes) : UpdF dh oh (LNews I lD dp rr dx dh dg L oI ol op or ox oh og oR oO oG oF oS o4 o1 codes) (fun oh => LNews I lD dp rr dx dh dg L oI ol op or ox oh og oR oO oG oF oS o4 o1 codes) :=
  upd_low (pre := [(dp, op), (rr, or), (dx, ox)]) (post := [(dg, og), (L + 1 + 1 + 1 + 1 + 1, oR), (L + 1 + 1 + 1 + 1, oO), (L + 1 + 1 + 1, oG), (L + 1 + 1, oF), (L + 1, oS), (348, o4), (103, o1)]) (ap.low _ (by k_mem)) ap.a11 ap.pw (codes_ne ap.a12 (by k_mem))
theorem updD (ap : Apart I lD dp rr dx dh dg L codes) : UpdF dg og (LNews I lD dp rr dx dh dg L oI ol op or ox oh og oR oO oG oF oS o4 o1 codes) (fun og => LNews I lD dp rr dx dh dg L oI ol op or ox oh og oR oO oG oF oS o4 o1 codes) :=
  upd_low (pre := [(dp, op), (rr, or), (dx, ox), (dh, oh)]) (post := [(L + 1 + 1 + 1 + 1 + 1, oR), (L + 1 + 1 + 1 + 1, oO), (L + 1 + 1 + 1, oG), (L + 1 + 1, oF), (L + 1, oS), (348, o4), (103, o1)]) (ap.low _ (by k_mem)) ap.a11 ap.pw (codes_ne ap.a12 (by k_mem))
theorem upd4 (ap : Apart I lD dp rr dx dh dg L codes) : UpdF 348 o4 (LNews I lD dp rr dx dh dg L oI ol op or ox oh og oR oO oG oF oS o4 o1 codes) (fun o4 => LNews I lD dp rr dx dh dg L oI ol op or ox oh og oR oO oG oF oS o4 o1 codes) :=
  upd_low (pre := [(dp, op), (rr, or), (dx, ox), (dh, oh), (dg, og), (L + 1 + 1 + 1 + 1 + 1, oR), (L + 1 + 1 + 1 + 1, oO), (L + 1 + 1 + 1, oG), (L + 1 + 1, oF), (L + 1, oS)]) (post := [(103, o1)]) (ap.low _ (by k_mem)) ap.a11 ap.pw (codes_ne ap.a12 (by k_mem))
theorem upd1 (ap : Apart I lD dp rr dx dh dg L codes) : UpdF 103 o1 (LNews I lD dp rr dx dh dg L oI ol op or ox oh og oR oO oG oF oS o4 o1 codes) (fun o1 => LNews I lD dp rr dx dh dg L oI ol op or ox oh og oR oO oG oF oS o4 o1 codes) :=
  upd_low (pre := [(dp, op), (rr, or), (dx, ox), (dh, oh), (dg, og), (L + 1 + 1 + 1 + 1 + 1, oR), (L + 1 + 1 + 1 + 1, oO), (L + 1 + 1 + 1, oG), (L + 1 + 1, oF), (L + 1, oS), (348, o4)]) (post := []) (ap.low _ (by k_mem)) ap.a11 ap.pw (codes_ne ap.a12 (by k_mem))
end
theorem off_new {g h : Heap} {I lD dp rr dx dh dg L T : Addr} {oI ol op or ox oh og oR oO oG oF oS o4 o1 oT : Obj} {codes : List (Addr × Obj)} (N : News g L h ((T, oT) :: LNews I lD dp rr dx dh dg L oI ol op or ox oh og oR oO oG oF oS o4 o1 codes)) (hT : ∀ p ∈ LNews I lD dp rr dx dh dg L oI ol op or ox oh og oR oO oG oF oS o4 o1 codes, @Ne Nat p.1 T) : OffFix I lD dp rr dx dh dg L T := by
  intro b hb
  obtain ⟨p, hp, rfl⟩ := List.mem_map.mp (show b ∈ ([(I, oI), (lD, ol), (dp, op), (rr, or), (dx, ox), (dh, oh), (dg, og), (L + 1 + 1 + 1 + 1 + 1, oR), (L + 1 + 1 + 1 + 1, oO), (L + 1 + 1 + 1, oG), (L + 1 + 1, oF), (L + 1, oS), (348, o4), (103, o1)] : List (Addr × Obj)).map Prod.fst from hb)
  exact Ne.symm (hT p (List.mem_append_left codes hp))
theorem apart_add {I lD dp rr dx dh dg L T : Addr} {oT : Obj} {codes : List (Addr × Obj)} (ap : Apart I lD dp rr dx dh dg L codes) (h : OffFix I lD dp rr dx dh dg L T) : Apart I lD dp rr dx dh dg L ((T, oT) :: codes) := by
  obtain ⟨a1, a2, a3, a4, a5, a6, a7, a8, a9, a10, a11, a12⟩ := ap
  refine ⟨a1, a2, a3, a4, a5, a6, a7, a8, a9, a10, a11, fun p hp => ?_⟩
  rcases List.mem_cons.mp hp with rfl | hp
  · exact h
  · exact a12 p hp
theorem news_in {g h : Heap} {I lD dp rr dx dh dg L T : Addr} {oI ol op or ox oh og oR oO oG oF oS o4 o1 oT : Obj} {codes : List (Addr × Obj)} (N : News g L h ((T, oT) :: LNews I lD dp rr dx dh dg L oI ol op or ox oh og oR oO oG oF oS o4 o1 codes)) : News g L h (LNews I lD dp rr dx dh dg L oI ol op or ox oh og oR oO oG oF oS o4 o1 ((T, oT) :: codes)) := by
  intro p hp
  rcases List.mem_append.mp (show p ∈ ([(I, oI), (lD, ol), (dp, op), (rr, or), (dx, ox), (dh, oh), (dg, og), (L + 1 + 1 + 1 + 1 + 1, oR), (L + 1 + 1 + 1 + 1, oO), (L + 1 + 1 + 1, oG), (L + 1 + 1, oF), (L + 1, oS), (348, o4), (103, o1)] : List (Addr × Obj)) ++ (T, oT) :: codes from hp) with h | h
  · exact N p (.tail _ (List.mem_append_left codes h))
  rcases List.mem_cons.mp h with rfl | h
  · exact N _ (.head _)
  · exact N p (.tail _ (List.mem_append_right ([(I, oI), (lD, ol), (dp, op), (rr, or), (dx, ox), (dh, oh), (dg, og), (L + 1 + 1 + 1 + 1 + 1, oR), (L + 1 + 1 + 1 + 1, oO), (L + 1 + 1 + 1, oG), (L + 1 + 1, oF), (L + 1, oS), (348, o4), (103, o1)] : List (Addr × Obj)) h))
section
variable {M : Model} {A : Around} {E : Value → Shared → Prop} {s : Shared} {g : Heap} {L c : Addr} {m : Str → Option Value} {news : List (Addr × Obj)} {u : Obj → List (Addr × Obj)} {o : Obj} {v₀ : Option Value} {env : Env} {x : Str} {v : Value}
theorem storeName_cell {name : Str} {Q : Unit → Shared → Prop} (hk : env.scope.kind = .function) (hl : env.kindOf name = some .cell)
    (hc : env.cells.lookup name = some c) (hv : s.heap.IsCell c v₀)
    (h : ∀ h', h'.IsCell c (some v) → Heap.SameBut c s.heap h' → Q () { s with heap := h' }) : wpAny M A (storeName env name v) Q E s := by
  unfold storeName
  simp only [hl, hk]
  exact wpAny_bind (wpAny_cellOf hc (wpAny_cellSet hv h))
theorem store_C {Q : Unit → Shared → Prop} (F : Fr g L s.heap m) (N : News g L s.heap news) (U : UpdF c o news u) (hd : o.data = .cell v₀)
    (h : ∀ h' o', Fr g L h' m → News g L h' (u o') → o'.data = .cell (some v) → Q () { s with heap := h' })
    (hc : env.cells.lookup x = some c) (hk : env.scope.kind = .function) (hx : env.kindOf x = some .cell) : wpAny M A (storeName env x v) Q E s := by
  obtain ⟨own, rest, rfl, hg, h1, h2⟩ := U.split
  have hmem := N (c, o) (List.mem_append_right _ (.head _))
  refine storeName_cell hk hx hc ⟨o, hmem.1, hd⟩ fun h' hv hs => ?_
  obtain ⟨o', ho', hd'⟩ := hv
  refine h h' o' ⟨F.ns.sameBut hs (Ne.symm hmem.2.1), fun b ob e => (hs.2 b (fun q => ?_)).trans (F.keep b ob e), F.above⟩ (hg o' ▸ N.setAt h1 h2 hs ho') hd'
  rw [q, hmem.2.2] at e; cases e
theorem news_drop {h : Heap} {x : Addr × Obj} (N : News g L h (x :: news)) : News g L h news := fun p hp => N p (.tail _ hp)
theorem load_C {Q : Value → Shared → Prop} (N : News g L s.heap news) (hm : (c, o) ∈ news) (hd : o.data = .cell (some v)) (h : Q v s)
    (hc : env.cells.lookup x = some c) (hk : env.scope.kind = .function) (hx : env.kindOf x = some .cell) {pos : Pos} (hb : (x == ("__debug__" : Str)) = false := by decide) : wpAny M A (eval (.Name x pos) env) Q E s :=
  wpAny_Name (wpAny_loadName_cell hk hx hc ⟨o, N.get hm, hd⟩ h) hb
end
noncomputable def lawOf : List Stmt → Option (List Stmt × Scope)
  | [] => none
  | [.FunctionDef _ _ body _ _ _ scope _ _ _] => some (body, scope)
  | _ :: r => lawOf r
noncomputable def subS : List Stmt → Nat → Option Stmt
  | s :: _, 0 => some s
  | _ :: r, n + 1 => subS r n
  | [], _ => none
noncomputable def forOf (i : Nat) : Option (Scope × List Stmt) := match lawOf PySem.Challenge.pw_iy0008_01.main.body with
  | some (body, scope) => match subS body i with
    | some (.For _ _ b _ _) => some (scope, b)
    | _ => none
  | none => none
noncomputable def chainBody : Nat → Stmt → Option (List Stmt)
  | 0, .If _ b _ _ => some b
  | n + 1, .If _ _ [s] _ => chainBody n s
  | _, _ => none
noncomputable def armOf (i k n : Nat) : Option (Scope × List Stmt) := match forOf i with
  | some (scope, b) => match subS b k with
    | some s => (chainBody n s).map fun c => (scope, c)
    | none => none
  | none => none
inductive LawSt (w : World) (g : Heap) (I lS lD dp rr dx dh dg L : Addr) (oI ol op : Obj) (t1 t2 : Tok) (D : DD) (k gd am fr : Bts) (old : Option Bts) (q kd : Int) (h : Heap) (gs : Array GenState) : Prop
  | mk (oh og oR oO oG oF oS : Obj) (ps ps3 : Array Value) (codes : List (Addr × Obj)) (m : Str → Option Value) (tS tF tG tA tq tk : Tok) (vO : Value) (h1 : Fr g L h (fun y => if y = Str.ofString "kind" then some (Value.int kd tk) else if y = Str.ofString "aim" then some (Value.bytes am.toArray tA) else if y = Str.ofString "q" then some (Value.int q tq) else if y = Str.ofString "script" then some (Value.ref lS) else if y = Str.ofString "held" then some (Value.ref dh) else if y = Str.ofString "given" then some (Value.ref dg) else m y)) (h2 : News g L h (LNews I lD dp rr dx dh dg L oI ol op (instObj 281 dx) (refsDict w t1 t2 dg dp) oh og oR oO oG oF oS (tabObj ps) (tabObj ps3) codes)) (h3 : Apart I lD dp rr dx dh dg L codes) (h4 : AllBare gs) (h5 : oS.data = .cell (some (.bytes k.toArray tS))) (h6 : oF.data = .cell (some (.bytes fr.toArray tF))) (h7 : oG.data = .cell (some (.bytes gd.toArray tG))) (h8 : oO.data = .cell (some vO)) (h9 : ResIs old vO) (h10 : oR.data = .cell (some (.ref rr))) (h11 : BObj w og D) (h12 : BObj w oh D) (h13 : CodesOk (Str.ofString "law" ++ Str.ofString ".<locals>." ++ Str.ofString "<lambda>") ps codes) (h14 : TriplesOk ps3.toList)
theorem fr_law {g h : Heap} {L : Addr} {m : Str → Option Value} {a b c d e f : Value} (F : Fr g L h m) (e1 : m (Str.ofString "kind") = some a) (e2 : m (Str.ofString "aim") = some b) (e3 : m (Str.ofString "q") = some c) (e4 : m (Str.ofString "script") = some d) (e5 : m (Str.ofString "held") = some e) (e6 : m (Str.ofString "given") = some f) :
    Fr g L h (fun y => if y = Str.ofString "kind" then some a else if y = Str.ofString "aim" then some b else if y = Str.ofString "q" then some c else if y = Str.ofString "script" then some d else if y = Str.ofString "held" then some e else if y = Str.ofString "given" then some f else m y) :=
  Fr.to F fun y => by
    by_cases c1 : y = Str.ofString "kind"
    · rw [if_pos c1, c1, e1]
    rw [if_neg c1]
    by_cases c2 : y = Str.ofString "aim"
    · rw [if_pos c2, c2, e2]
    rw [if_neg c2]
    by_cases c3 : y = Str.ofString "q"
    · rw [if_pos c3, c3, e3]
    rw [if_neg c3]
    by_cases c4 : y = Str.ofString "script"
    · rw [if_pos c4, c4, e4]
    rw [if_neg c4]
    by_cases c5 : y = Str.ofString "held"
    · rw [if_pos c5, c5, e5]
    rw [if_neg c5]
    by_cases c6 : y = Str.ofString "given"
    · rw [if_pos c6, c6, e6]
    rw [if_neg c6]
theorem mem6 {p : Bts} {a : Int} (h : names9[(a.fmod 6).toNat]? = some p) : p ∈ names6 := by
  have hlt : (a.fmod 6).toNat < 6 := by
    have h1 : a.fmod 6 < 6 := fm_lt (by decide)
    omega
  refine List.mem_of_getElem? (i := (a.fmod 6).toNat) ?_
  unfold names6
  rw [List.getElem?_take, if_pos hlt]; exact h
end
example : ∀ w A s Q E, TZ w A s Q E → TZ w A s Q E := by intro w A s Q E h; w_top off; first | (walk1; fail) | exact h
section
def gT1.siteTag : Unit := ()
open gT1
open LG
example : True := by
  k_with "gT1 call ref" => (k_here; (try dsimp only [List.nil_append, List.cons_append, List.append_nil]); (with_reducible show wpAny _ _ (call (Value.ref 290) _) _ _ _); k_dflt (refine' spec_names ?sX ?sT ?sb ?sr ?su ?sh ?_; (case sb => exact keep_base (by k_asm) (by k_asm)); (case sX => k_asm); (case sT => k_asm); (case sr => k_room); (case su => k_units); (case sh => k_asm)); (all_goals first | ((with_reducible intro l' vs' c' h' tk' hb' kk' eL' nL'); (k_dflt (have N' := news_more (by k_asm) (news_keepAll (by k_asm) kk') eL' nL')); (k_dflt (have F' := fr_keepAll (by k_asm) kk')); clear nL' eL' kk'; (try k_sweep))))
  k_with "gT1 call ref" => (k_here; (try dsimp only [List.nil_append, List.cons_append, List.append_nil]); (with_reducible show wpAny _ _ (call (Value.ref 297) _) _ _ _); k_dflt (refine' spec_values ?sX ?sT ?sb ?sr ?su ?sh ?_; (case sb => exact keep_base (by k_asm) (by k_asm)); (case sX => k_asm); (case sT => k_asm); (case sr => k_room); (case su => k_units); (case sh => k_asm)); (all_goals first | ((with_reducible intro l' vs' c' h' tk' hb' kk' eL' nL'); (k_dflt (have N' := news_more (by k_asm) (news_keepAll (by k_asm) kk') eL' nL')); (k_dflt (have F' := fr_keepAll (by k_asm) kk')); clear nL' eL' kk'; (try k_sweep))))
  k_with "gT1 call ref" => (k_here; (try dsimp only [List.nil_append, List.cons_append, List.append_nil]); (with_reducible show wpAny _ _ (call (Value.ref 304) _) _ _ _); k_dflt (refine' spec_olds ?sX ?sT ?sb ?sr ?su ?sh ?_; (case sb => exact keep_base (by k_asm) (by k_asm)); (case sX => k_asm); (case sT => k_asm); (case sr => k_room); (case su => k_units); (case sh => k_asm)); (all_goals first | ((with_reducible intro l' vs' c' h' tk' hb' kk' eL' nL'); (k_dflt (have N' := news_more (by k_asm) (news_keepAll (by k_asm) kk') eL' nL')); (k_dflt (have F' := fr_keepAll (by k_asm) kk')); clear nL' eL' kk'; (try k_sweep))))
  trivial
theorem ifs_stop {M : Model} {A : Around} {t : PySem.Expr} {a b r : List Stmt} {p : Pos} {env : Env} {Q : Flow → Shared → Prop} {E : Value → Shared → Prop} {s : Shared} (h : Stop (wpAny M A (execs (.If t a b p :: r) env) Q E s)) : wpAny M A (execs (.If t a b p :: r) env) Q E s := h
example : True := by
  k_with "gT1 execs cons" => (with_reducible refine ifs_stop ?_)
  trivial
section
variable {p9 : Program} {lo9 : List Str} {w : World} {A : Around} {s : Shared} {base : Heap} {mg mb : Str → Option Value} {mean : ExcName → Option Value} {Q E : Value → Shared → Prop}
set_option maxHeartbeats 2000000 in
theorem turn_pro : ∃ scope b i1 i2, forOf 3 = some (scope, b) ∧ b.drop 7 = [i1, i2] ∧ ∀ {p9 : Program} {lo9 : List Str} {w : World} {A : Around} {g h : Heap} {L fa I lS lD dp rr dx dh dg : Addr} {oI ol op oh og oR oO oG oF oS : Obj} {t1 t2 : Tok} {D : DD} {ps ps3 : Array Value} {codes : List (Addr × Obj)} {mg mb m : Str → Option Value} {mean : ExcName → Option Value} {Q : Flow → Shared → Prop} {E : Value → Shared → Prop} {gs : Array GenState} {dr : Drawn} {tk : Nat} {os : OsState} {n : Int} {tn : Tok} {vS vF vG vO : Option Value},
    (hd.heap_1 w.params).In g → Top p9 lo9 mean mg mb g → Fr g L h (fun y => if y = Str.ofString "n" then some (Value.int n tn) else if y = Str.ofString "script" then some (Value.ref lS) else if y = Str.ofString "held" then some (Value.ref dh) else if y = Str.ofString "given" then some (Value.ref dg) else m y) →
    News g L h (LNews I lD dp rr dx dh dg L oI ol op (instObj 281 dx) (refsDict w t1 t2 dg dp) oh og oR oO oG oF oS (tabObj ps) (tabObj ps3) codes) → Apart I lD dp rr dx dh dg L codes → AllBare gs → A.depth + 60 < recursionLimit → A.units + 600 < cLine → A.handled = none → 
    oS.data = .cell vS → oF.data = .cell vF → oG.data = .cell vG → oO.data = .cell vO → oR.data = .cell (some (.ref rr)) → BObj w og D → BObj w oh D → CodesOk (Str.ofString "law" ++ Str.ofString ".<locals>." ++ Str.ofString "<lambda>") ps codes → TriplesOk ps3.toList →
    (∀ k gd am fr old h' tk', k ∈ names9 → gd ∈ names6 → am ∈ names6 → fr ∈ vals6 → old ∈ olds4 → LawSt w g I lS lD dp rr dx dh dg L oI ol op t1 t2 D k gd am fr old (n.fdiv 8) (n.fmod 8) h' gs → wpAny (model PG w) A (execs [i1, i2] (envOfC (Str.ofString "law") scope L fa (.ref 350))) Q E ⟨h', gs, dr, tk', os⟩) →
    wpAny (model PG w) A (execs b (envOfC (Str.ofString "law") scope L fa (.ref 350))) Q E ⟨h, gs, dr, tk, os⟩ := by
  refine ⟨_, _, _, _, by rfl, by rfl, ?_⟩
  intro p9 lo9 w A g h L fa I lS lD dp rr dx dh dg oI ol op oh og oR oO oG oF oS t1 t2 D ps ps3 codes mg mb m mean Q E gs dr tk os n tn vS vF vG vO X T F N ap ag hroom hun hhd dS dF dG dO dR hB hBh hco ht3 hQ
  have hrefl : KeepAll g g := fun _ _ e => e
  k_steps
  rename Fr _ _ _ _ => F9
  refine hQ _ _ _ _ _ _ _ ?h1 ?h2 ?h3 ?h4 ?h5 ⟨_, _, _, _, _, _, _, ps, ps3, codes, _, _, _, _, _, _, _, _, fr_law F9 (by with_unfolding_all rfl) (by with_unfolding_all rfl) (by with_unfolding_all rfl) (by with_unfolding_all rfl) (by with_unfolding_all rfl) (by with_unfolding_all rfl), by k_asm, ap, ag, by k_asm, by k_asm, by k_asm, by k_asm, by k_asm, dR, hB, hBh, hco, ht3⟩
  case h1 => exact List.mem_of_getElem? (by k_asm)
  case h2 => exact mem6 (by k_asm)
  case h3 => exact mem6 (by k_asm)
  case h4 => exact List.mem_of_getElem? (by k_asm)
  case h5 => k_asm
end
end
example : ∀ w A s Q E, TZ w A s Q E → TZ w A s Q E := by intro w A s Q E h; w_top off; first | (walk1; fail) | exact h
section
def gC5.siteTag : Unit := ()
open gC5
section
variable {p9 : Program} {lo9 : List Str} {w : World} {A : Around} {s : Shared} {base : Heap} {mg mb : Str → Option Value} {mean : ExcName → Option Value} {Q E : Value → Shared → Prop}
example : True := by
  k_with "gC5 call ref" => (k_here; (try dsimp only [List.nil_append, List.cons_append, List.append_nil]); (with_reducible show wpAny _ _ (call (Value.ref 67) _) _ _ _); k_dflt (refine' spec_Ref ?sX ?sT ?sb ?sr ?su ?sh ?_; (case sb => exact keep_base (by k_asm) (by k_asm)); (case sX => k_asm); (case sT => k_asm); (case sr => k_room); (case su => k_units); (case sh => k_asm)); (all_goals first | ((with_reducible intro h' tk' kk'); (have F' := fr_keepAll (by k_asm) kk'); (have N' := news_keepAll (by k_asm) kk'); (try k_sweep))))
  k_with "gC5 call ref" => (k_here; (try dsimp only [List.nil_append, List.cons_append, List.append_nil]); (with_reducible show wpAny _ _ (call (Value.ref 53) _) _ _ _); k_dflt (refine' spec_Obj ?sX ?sT ?sb ?sr ?su ?sh ?_; (case sb => exact keep_base (by k_asm) (by k_asm)); (case sX => k_asm); (case sT => k_asm); (case sr => k_room); (case su => k_units); (case sh => k_asm)); (all_goals first | ((with_reducible intro h' tk' kk'); (have F' := fr_keepAll (by k_asm) kk'); (have N' := news_keepAll (by k_asm) kk'); (try k_sweep))))
  k_with "gC5 call ref" => (k_here; (try dsimp only [List.nil_append, List.cons_append, List.append_nil]); (with_reducible show wpAny _ _ (call (Value.ref 159) _) _ _ _); k_dflt (refine' spec_read ?sX ?sT ?sb ?sr ?su ?sh ?sR ?sV ?_ ?_; (case sb => exact keep_base (by k_asm) (by k_asm)); (case sX => k_asm); (case sT => k_asm); (case sr => k_room); (case su => k_units); (case sh => k_asm); (case sR => ktr_unf); (case sV => k_asm)); (all_goals first | ((with_reducible intro v' t' h' tk' hgv' kk'); (have F' := fr_keepAll (by k_asm) kk'); (have N' := news_keepAll (by k_asm) kk'); (try k_sweep)) | ((with_reducible intro h' tk' hgn' kk'); (have F' := fr_keepAll (by k_asm) kk'); (have N' := news_keepAll (by k_asm) kk'); (try k_sweep))))
  k_with "gC5 call ref" => (k_here; (try dsimp only [List.nil_append, List.cons_append, List.append_nil]); (with_reducible show wpAny _ _ (call (Value.ref 166) _) _ _ _); k_dflt (refine' spec_follow2 ?sX ?sT ?sb ?sr ?su ?sh ?sR ?sV ?sk ?sA ?sF ?_ ?_ ?_; (case sb => exact keep_base (by k_asm) (by k_asm)); (case sX => k_asm); (case sT => k_asm); (case sr => k_room); (case su => k_units); (case sh => k_asm); (case sA => exact Around.frames_deeper (by k_asm)); (case sF => exact frames_push (by k_asm) (FramesOk.keep (by k_asm) (by ktr_rel)) (by first | exact rfl | k_asm) rfl); (case sR => exact refs_at3 (by k_asm) (by k_asm) (by k_asm) rfl (by k_asm) (by k_mem) (by k_mem) (by k_mem) (by k_asm) (by k_asm)); (case sV => k_asm); (case sk => k_asm)); (all_goals first | ((with_reducible intro T' l' v' tv' vs' ps' c' h' tk' hf' hb' kk' eT' eL' nT' nL'); (have neT := allNe (by k_asm) (by k_asm) nT'); (have neL := allNe (by k_asm) (by k_asm) nL'); (simp only [AllNe, and_true] at neT neL); (have N' := news_more (by k_asm) (news_more (by k_asm) (news_keepAll (by k_asm) kk') eL' nL') eT' nT'); (have F' := fr_keepAll (by k_asm) kk'); (try k_sweep)) | ((with_reducible intro T' l' vs' ps' c' h' tk' hf' hb' kk' eT' eL' nT' nL'); (have neT := allNe (by k_asm) (by k_asm) nT'); (have neL := allNe (by k_asm) (by k_asm) nL'); (simp only [AllNe, and_true] at neT neL); (have N' := news_more (by k_asm) (news_more (by k_asm) (news_keepAll (by k_asm) kk') eL' nL') eT' nT'); (have F' := fr_keepAll (by k_asm) kk'); (try k_sweep)) | ((with_reducible intro hf' h' tk' e' R'); (with_reducible replace R' : RaisedH _ _ _ _ _ := R'))))
  k_with "gC5 call ref" => (k_here; (try dsimp only [List.nil_append, List.cons_append, List.append_nil]); (with_reducible show wpAny _ _ (call (Value.ref 152) _) _ _ _); k_dflt (refine' spec_chkv ?sX ?sT ?sb ?sr ?su ?sh ?sA ?sF ?sk ?_ ?_; (case sb => exact keep_base (by k_asm) (by k_asm)); (case sX => k_asm); (case sT => k_asm); (case sr => k_room); (case su => k_units); (case sh => k_asm); (case sA => exact Around.frames_deeper (by k_asm)); (case sF => exact frames_push (by k_asm) (FramesOk.keep (by k_asm) (by ktr_rel)) (by first | exact rfl | k_asm) rfl); (case sk => k_asm)); (all_goals first | ((with_reducible intro hv' h' tk' kk'); (have F' := fr_keepAll (by k_asm) kk'); (have N' := news_keepAll (by k_asm) kk'); (try k_sweep)) | ((with_reducible intro hv' h' tk' e' R'); (with_reducible replace R' : RaisedH _ _ _ _ _ := R'))))
  k_with "gC5 call ref" => (k_here; (try dsimp only [List.nil_append, List.cons_append, List.append_nil]); (with_reducible show wpAny _ _ (call (Value.ref 145) _) _ _ _); k_dflt (refine' spec_chkn ?sX ?sT ?sb ?sr ?su ?sh ?sA ?sF ?sk ?sC ?sG ?_ ?_; (case sb => exact keep_base (by k_asm) (by k_asm)); (case sX => k_asm); (case sT => k_asm); (case sr => k_room); (case su => k_units); (case sh => k_asm); (case sA => exact Around.frames_deeper (by k_asm)); (case sF => exact frames_push (by k_asm) (FramesOk.keep (by k_asm) (by ktr_rel)) (by first | exact rfl | k_asm) rfl); (case sk => k_asm); (case sC => exact ColAt.keep (by k_asm) (by ktr_rel)); (case sG => k_asm)); (all_goals first | ((have hc9 := ColAt.keep (by k_asm) (by ktr_rel)); (with_reducible intro hv' h' g' d' tk' kk' cc' ag'); (have off9 := ColAt.off hc9 (by k_asm) (by (repeat' (first | exact all_nil | (with_reducible refine all_cons ?_ ?_))); (all_goals first | exact bobj_cls (by k_asm) | (intro q9; cases q9; done)))); (have ne9 := offAll off9); (simp only [AllNe, and_true] at ne9); (obtain ⟨ps', et', tr'⟩ := id (ColAt.tab cc')); (have hb2' := base_col cc' (by k_asm)); (k_dflt (have N' := news_col (by k_asm) (by k_asm) (by k_asm) cc' kk' off9 et')); (k_dflt (have F' := fr_col (by k_asm) (by k_asm) cc' kk')); (have X' := Frag.In.keeps (by k_asm) hb2'); (have T' := Top.keeps (by k_asm) hb2'); (try k_sweep)) | ((with_reducible intro hv' h' tk' e' R'); (with_reducible replace R' : RaisedH _ _ _ _ _ := R'))))
  trivial
set_option maxHeartbeats 4000000 in
theorem spec_symref {k a : Bts} {t u : Tok} {fs : List Env} {r dg : Addr} {D : DD} (X : (hd.heap_1 w.params).In base) (T : Top p9 lo9 mean mg mb base) (hb : KeepAll base s.heap) (hroom : A.depth + 8 < recursionLimit) (hun : A.units + 80 < cLine) (hhd : A.handled = none) (hR : RefsAt w base fs s.heap r dg D) (hV : ValsOk D) (hD : D.length ≤ 100) (hA : A.frames = some fs) (hfs : FramesOk s.heap fs) (hkl : k.length ≤ 64) (hal : a.length ≤ 64) (hf : followD D 6 k ≠ none)
    (h : ∀ h' tk' o', Keep [dg] s.heap h' → h'.get? dg = some o' → BObj w o' (putB D k (rp ++ a)) → Q (Value.none) { s with heap := h', toks := tk' }) :
    wpAny (model PG w) A (call (.ref 250) [.ref r, .bytes k.toArray t, .bytes a.toArray u]) Q E s := by
  refine wpAny_call ?_
  refine' enter_def (binds := [(Str.ofString "self", Value.ref r), (Str.ofString "name", Value.bytes k.toArray t), (Str.ofString "other", Value.bytes a.toArray u)]) (X.keeps hb) (T.keeps hb) ?k6 ?k7 ?k8 ?k9 ?kB ?_ ?c2 ?c3 ?c4 ?c5
  case k6 => k_is
  case k7 => k_is
  case k8 => omega
  case k9 => exact BindsTo.of_eq rfl
  case kB => exact locs rfl
  case c2 => exact rfl
  case c3 => exact rfl
  case c4 => exact rfl
  case c5 => decide
  intro L' h' hL F'
  obtain ⟨dx, dp, t1, t2, o, F1, N1, X1, T1, hB, lo, n1, n2, n3, e1, e2, e3, hbg, sp⟩ := hR.open F' X T hb
  clear F'
  (try dsimp only)
  (try k_fold)
  k_steps
  · exact h _ _ _ (refs_turn (by k_asm) (by k_asm) (by k_mem) (by k_mem) (by k_asm) (by k_asm)) (News.get (by k_asm) (by k_mem)) (by k_asm)
  · exact h _ _ _ (refs_turn (by k_asm) (by k_asm) (by k_mem) (by k_mem) (by k_asm) (by k_asm)) (News.get (by k_asm) (by k_mem)) (by k_asm)
  · exact absurd (by k_asm) hf
set_option maxHeartbeats 4000000 in
theorem spec_add {k v : Bts} {t u : Tok} {fs : List Env} {r dg : Addr} {D : DD} (X : (hd.heap_1 w.params).In base) (T : Top p9 lo9 mean mg mb base) (hb : KeepAll base s.heap) (hroom : A.depth + 10 < recursionLimit) (hun : A.units + 100 < cLine) (hhd : A.handled = none) (hR : RefsAt w base fs s.heap r dg D) (hV : ValsOk D) (hD : D.length ≤ 100) (hA : A.frames = some fs) (hfs : FramesOk s.heap fs) (hkl : k.length ≤ 64) (hv : v ∈ vals6)
    (h : v ≠ badV → getB D k = none → ∀ h' tk' o', Keep [dg] s.heap h' → h'.get? dg = some o' → BObj w o' (putB D k v) → Q (.bool true) { s with heap := h', toks := tk' })
    (hF : v ≠ badV → (getB D k).isSome = true → ∀ h' tk', KeepAll s.heap h' → Q (.bool false) { s with heap := h', toks := tk' })
    (hE : v = badV → ∀ h' tk' e, RaisedH s.heap fs e (.type "ValueError") h' → E (.ref e) { s with heap := h', toks := tk' }) :
    wpAny (model PG w) A (call (.ref 264) [.ref r, .bytes k.toArray t, .bytes v.toArray u]) Q E s := by
  refine wpAny_call ?_
  refine' enter_def (binds := [(Str.ofString "self", Value.ref r), (Str.ofString "name", Value.bytes k.toArray t), (Str.ofString "ref", Value.bytes v.toArray u)]) (X.keeps hb) (T.keeps hb) ?k6 ?k7 ?k8 ?k9 ?kB ?_ ?c2 ?c3 ?c4 ?c5
  case k6 => k_is
  case k7 => k_is
  case k8 => omega
  case k9 => exact BindsTo.of_eq rfl
  case kB => exact locs rfl
  case c2 => exact rfl
  case c3 => exact rfl
  case c4 => exact rfl
  case c5 => decide
  intro L' h' hL F'
  obtain ⟨dx, dp, t1, t2, o, F1, N1, X1, T1, hB, lo, n1, n2, n3, e1, e2, e3, hbg, sp⟩ := hR.open F' X T hb
  clear F'
  (try dsimp only)
  (try k_fold)
  k_steps
  · rename (getB D k).isSome = true => e9
    exact hF (by k_asm) e9 _ _ (by ktr_rel)
  · exact h (by k_asm) (by rename (getB D k).isSome = false => e9; exact Option.isSome_eq_false_iff.mp e9 |> Option.isNone_iff_eq_none.mp) _ _ _ (refs_turn (by k_asm) (by k_asm) (by k_mem) (by k_mem) (by k_asm) (by k_asm)) (News.get (by k_asm) (by k_mem)) (by k_asm)
  · exact leave_on hA rfl (hL ▸ fresh_size _) (by ktr_rel) (by k_asm) fun _ R => hE (by k_asm) _ _ _ R
end
end
example : ∀ w A s Q E, TZ w A s Q E → TZ w A s Q E := by intro w A s Q E h; w_top off; first | (walk1; fail) | exact h
section
def gC4.siteTag : Unit := ()
open gC4
section
variable {p9 : Program} {lo9 : List Str} {w : World} {A : Around} {s : Shared} {base : Heap} {mg mb : Str → Option Value} {mean : ExcName → Option Value} {Q E : Value → Shared → Prop}
example : True := by
  k_with "gC4 call ref" => (k_here; (try dsimp only [List.nil_append, List.cons_append, List.append_nil]); (with_reducible show wpAny _ _ (call (Value.ref 67) _) _ _ _); k_dflt (refine' spec_Ref ?sX ?sT ?sb ?sr ?su ?sh ?_; (case sb => exact keep_base (by k_asm) (by k_asm)); (case sX => k_asm); (case sT => k_asm); (case sr => k_room); (case su => k_units); (case sh => k_asm)); (all_goals first | ((with_reducible intro h' tk' kk'); (have F' := fr_keepAll (by k_asm) kk'); (have N' := news_keepAll (by k_asm) kk'); (try k_sweep))))
  k_with "gC4 call ref" => (k_here; (try dsimp only [List.nil_append, List.cons_append, List.append_nil]); (with_reducible show wpAny _ _ (call (Value.ref 53) _) _ _ _); k_dflt (refine' spec_Obj ?sX ?sT ?sb ?sr ?su ?sh ?_; (case sb => exact keep_base (by k_asm) (by k_asm)); (case sX => k_asm); (case sT => k_asm); (case sr => k_room); (case su => k_units); (case sh => k_asm)); (all_goals first | ((with_reducible intro h' tk' kk'); (have F' := fr_keepAll (by k_asm) kk'); (have N' := news_keepAll (by k_asm) kk'); (try k_sweep))))
  k_with "gC4 call ref" => (k_here; (try dsimp only [List.nil_append, List.cons_append, List.append_nil]); (with_reducible show wpAny _ _ (call (Value.ref 159) _) _ _ _); k_dflt (refine' spec_read ?sX ?sT ?sb ?sr ?su ?sh ?sR ?sV ?_ ?_; (case sb => exact keep_base (by k_asm) (by k_asm)); (case sX => k_asm); (case sT => k_asm); (case sr => k_room); (case su => k_units); (case sh => k_asm); (case sR => ktr_unf); (case sV => k_asm)); (all_goals first | ((with_reducible intro v' t' h' tk' hgv' kk'); (have F' := fr_keepAll (by k_asm) kk'); (have N' := news_keepAll (by k_asm) kk'); (try k_sweep)) | ((with_reducible intro h' tk' hgn' kk'); (have F' := fr_keepAll (by k_asm) kk'); (have N' := news_keepAll (by k_asm) kk'); (try k_sweep))))
  k_with "gC4 call ref" => (k_here; (try dsimp only [List.nil_append, List.cons_append, List.append_nil]); (with_reducible show wpAny _ _ (call (Value.ref 166) _) _ _ _); k_dflt (refine' spec_follow2 ?sX ?sT ?sb ?sr ?su ?sh ?sR ?sV ?sk ?sA ?sF ?_ ?_ ?_; (case sb => exact keep_base (by k_asm) (by k_asm)); (case sX => k_asm); (case sT => k_asm); (case sr => k_room); (case su => k_units); (case sh => k_asm); (case sA => exact Around.frames_deeper (by k_asm)); (case sF => exact frames_push (by k_asm) (FramesOk.keep (by k_asm) (by ktr_rel)) (by first | exact rfl | k_asm) rfl); (case sR => exact refs_at3 (by k_asm) (by k_asm) (by k_asm) rfl (by k_asm) (by k_mem) (by k_mem) (by k_mem) (by k_asm) (by k_asm)); (case sV => k_asm); (case sk => k_asm)); (all_goals first | ((with_reducible intro T' l' v' tv' vs' ps' c' h' tk' hf' hb' kk' eT' eL' nT' nL'); (have neT := allNe (by k_asm) (by k_asm) nT'); (have neL := allNe (by k_asm) (by k_asm) nL'); (simp only [AllNe, and_true] at neT neL); (have N' := news_more (by k_asm) (news_more (by k_asm) (news_keepAll (by k_asm) kk') eL' nL') eT' nT'); (have F' := fr_keepAll (by k_asm) kk'); (try k_sweep)) | ((with_reducible intro T' l' vs' ps' c' h' tk' hf' hb' kk' eT' eL' nT' nL'); (have neT := allNe (by k_asm) (by k_asm) nT'); (have neL := allNe (by k_asm) (by k_asm) nL'); (simp only [AllNe, and_true] at neT neL); (have N' := news_more (by k_asm) (news_more (by k_asm) (news_keepAll (by k_asm) kk') eL' nL') eT' nT'); (have F' := fr_keepAll (by k_asm) kk'); (try k_sweep)) | ((with_reducible intro hf' h' tk' e' R'); (with_reducible replace R' : RaisedH _ _ _ _ _ := R'))))
  k_with "gC4 call ref" => (k_here; (try dsimp only [List.nil_append, List.cons_append, List.append_nil]); (with_reducible show wpAny _ _ (call (Value.ref 152) _) _ _ _); k_dflt (refine' spec_chkv ?sX ?sT ?sb ?sr ?su ?sh ?sA ?sF ?sk ?_ ?_; (case sb => exact keep_base (by k_asm) (by k_asm)); (case sX => k_asm); (case sT => k_asm); (case sr => k_room); (case su => k_units); (case sh => k_asm); (case sA => exact Around.frames_deeper (by k_asm)); (case sF => exact frames_push (by k_asm) (FramesOk.keep (by k_asm) (by ktr_rel)) (by first | exact rfl | k_asm) rfl); (case sk => k_asm)); (all_goals first | ((with_reducible intro hv' h' tk' kk'); (have F' := fr_keepAll (by k_asm) kk'); (have N' := news_keepAll (by k_asm) kk'); (try k_sweep)) | ((with_reducible intro hv' h' tk' e' R'); (with_reducible replace R' : RaisedH _ _ _ _ _ := R'))))
  k_with "gC4 call ref" => (k_here; (try dsimp only [List.nil_append, List.cons_append, List.append_nil]); (with_reducible show wpAny _ _ (call (Value.ref 145) _) _ _ _); k_dflt (refine' spec_chkn ?sX ?sT ?sb ?sr ?su ?sh ?sA ?sF ?sk ?sC ?sG ?_ ?_; (case sb => exact keep_base (by k_asm) (by k_asm)); (case sX => k_asm); (case sT => k_asm); (case sr => k_room); (case su => k_units); (case sh => k_asm); (case sA => exact Around.frames_deeper (by k_asm)); (case sF => exact frames_push (by k_asm) (FramesOk.keep (by k_asm) (by ktr_rel)) (by first | exact rfl | k_asm) rfl); (case sk => k_asm); (case sC => exact ColAt.keep (by k_asm) (by ktr_rel)); (case sG => k_asm)); (all_goals first | ((have hc9 := ColAt.keep (by k_asm) (by ktr_rel)); (with_reducible intro hv' h' g' d' tk' kk' cc' ag'); (have off9 := ColAt.off hc9 (by k_asm) (by (repeat' (first | exact all_nil | (with_reducible refine all_cons ?_ ?_))); (all_goals first | exact bobj_cls (by k_asm) | (intro q9; cases q9; done)))); (have ne9 := offAll off9); (simp only [AllNe, and_true] at ne9); (obtain ⟨ps', et', tr'⟩ := id (ColAt.tab cc')); (have hb2' := base_col cc' (by k_asm)); (k_dflt (have N' := news_col (by k_asm) (by k_asm) (by k_asm) cc' kk' off9 et')); (k_dflt (have F' := fr_col (by k_asm) (by k_asm) cc' kk')); (have X' := Frag.In.keeps (by k_asm) hb2'); (have T' := Top.keeps (by k_asm) hb2'); (try k_sweep)) | ((with_reducible intro hv' h' tk' e' R'); (with_reducible replace R' : RaisedH _ _ _ _ _ := R'))))
  trivial
set_option maxHeartbeats 4000000 in
theorem spec_getitem {k : Bts} {t : Tok} {fs : List Env} {r dg : Addr} {D : DD} (X : (hd.heap_1 w.params).In base) (T : Top p9 lo9 mean mg mb base) (hb : KeepAll base s.heap) (hroom : A.depth + 8 < recursionLimit) (hun : A.units + 80 < cLine) (hhd : A.handled = none) (hR : RefsAt w base fs s.heap r dg D) (hV : ValsOk D) (hkl : k.length ≤ 64) (hA : A.frames = some fs) (hfs : FramesOk s.heap fs)
    (h : ∀ ps v t' h' tk', followD D 6 k = some (ps, some v) → KeepAll s.heap h' → Q (.bytes v.toArray t') { s with heap := h', toks := tk' })
    (hK : ∀ ps, followD D 6 k = some (ps, none) → ∀ h' tk' e, RaisedH s.heap fs e (.type "KeyError") h' → E (.ref e) { s with heap := h', toks := tk' })
    (hE : followD D 6 k = none → ∀ h' tk' e, RaisedH s.heap fs e (.ref 84) h' → E (.ref e) { s with heap := h', toks := tk' }) :
    wpAny (model PG w) A (call (.ref 180) [.ref r, .bytes k.toArray t]) Q E s := by
  refine wpAny_call ?_
  refine' enter_def (binds := [(Str.ofString "self", Value.ref r), (Str.ofString "name", Value.bytes k.toArray t)]) (X.keeps hb) (T.keeps hb) ?k6 ?k7 ?k8 ?k9 ?kB ?_ ?c2 ?c3 ?c4 ?c5
  case k6 => k_is
  case k7 => k_is
  case k8 => omega
  case k9 => exact BindsTo.of_eq rfl
  case kB => exact locs rfl
  case c2 => exact rfl
  case c3 => exact rfl
  case c4 => exact rfl
  case c5 => decide
  intro L' h' hL F'
  obtain ⟨dx, dp, t1, t2, o, F1, N1, X1, T1, hB, lo, n1, n2, n3, e1, e2, e3, hbg, sp⟩ := hR.open F' X T hb
  clear F'
  (try dsimp only)
  (try k_fold)
  k_steps
  · exact h _ _ _ _ _ (by k_asm) (by ktr_rel)
  · exact leave_new (by k_asm) (by k_asm) hA hfs (by ktr_rel) (hL ▸ fresh_size _) rfl rfl fun _ R => hK _ (by k_asm) _ _ _ R
  · exact leave_on hA rfl (hL ▸ fresh_size _) (by ktr_rel) (by k_asm) fun _ R => hE (by k_asm) _ _ _ R
end
end
example : ∀ w A s Q E, TZ w A s Q E → TZ w A s Q E := by intro w A s Q E h; w_top off; first | (walk1; fail) | exact h
section
noncomputable def addOut (D : DD) (k v : Bts) : Sum Bool Str × DD := if v = badV then (.inr wValue, D) else if (getB D k).isSome = true then (.inl false, D) else (.inl true, putB D k v)
theorem addOut_bad {D : DD} {k v : Bts} (h : v = badV) : addOut D k v = (.inr wValue, D) := if_pos h
theorem addOut_no {D : DD} {k v : Bts} (h : v ≠ badV) (h2 : (getB D k).isSome = true) : addOut D k v = (.inl false, D) := by unfold addOut; rw [if_neg h, if_pos h2]
theorem addOut_yes {D : DD} {k v : Bts} (h : v ≠ badV) (h2 : getB D k = none) : addOut D k v = (.inl true, putB D k v) := by unfold addOut; rw [if_neg h, if_neg (by rw [h2]; decide)]
noncomputable def remOut (D : DD) (k : Bts) (old : Option Bts) : Sum Bool Str × DD := if (∃ b, old = some b ∧ (getB D k).getD zeroV ≠ b) then (.inl false, D) else if (getB D k).isSome = true then (.inl true, delB D k) else (.inl true, D)
theorem remOut_no {D : DD} {k : Bts} {old : Option Bts} (h2 : ∃ b, old = some b ∧ (getB D k).getD zeroV ≠ b) : remOut D k old = (.inl false, D) := if_pos h2
theorem remOut_yes {D : DD} {k : Bts} {old : Option Bts} (h2 : ∀ b, old = some b → (getB D k).getD zeroV = b) (h : (getB D k).isSome = true) : remOut D k old = (.inl true, delB D k) := by
  unfold remOut; rw [if_neg (by rintro ⟨b, e, n⟩; exact n (h2 b e)), if_pos h]
theorem remOut_nil {D : DD} {k : Bts} {old : Option Bts} (h2 : ∀ b, old = some b → (getB D k).getD zeroV = b) (h : getB D k = none) : remOut D k old = (.inl true, D) := by
  unfold remOut; rw [if_neg (by rintro ⟨b, e, n⟩; exact n (h2 b e)), if_neg (by rw [h]; decide)]
noncomputable def PutIs : Option Str → Value → Prop
  | none, v => v = .none
  | some x, v => ∃ t, v = .str x t
noncomputable def putOut (D : DD) (k v : Bts) : Option Str × DD := if v = badV then (some wValue, D) else if okName k = true then (none, putB D k v) else (some wName, D)
theorem putOut_bad {D : DD} {k v : Bts} (h : v = badV) : putOut D k v = (some wValue, D) := if_pos h
theorem putOut_yes {D : DD} {k v : Bts} (h : v ≠ badV) (h3 : okName k = true) : putOut D k v = (none, putB D k v) := by unfold putOut; rw [if_neg h, if_pos h3]
theorem putOut_name {D : DD} {k v : Bts} (h : v ≠ badV) (h3 : okName k = false) : putOut D k v = (some wName, D) := by unfold putOut; rw [if_neg h, if_neg (by rw [h3]; decide)]
theorem keepF_pop {env : Env} {fs : List Env} {L : Addr} {h0 h h' : Heap} (hf : env.frame = some L) (hL : h0.get? L = none) (k : KeepAll h0 h) (x : KeepF (env :: fs) h h') : KeepF fs h0 h' := by
  refine ⟨fun b o n e => x.1 b o (fun hm => ?_) (k _ _ e), (Heap.UpToSlots.of_keeps k).trans x.2⟩
  obtain ⟨e', he', h2⟩ := List.mem_filterMap.mp hm
  rcases List.mem_cons.mp he' with rfl | he'
  · rw [hf] at h2; cases h2; rw [hL] at e; cases e
  · exact n (List.mem_filterMap.mpr ⟨e', he', h2⟩)
def gY2.siteTag : Unit := ()
open gY2
example : True := by
  k_with "gY2 call ref" => (k_here; (try dsimp only [List.nil_append, List.cons_append, List.append_nil]); (with_reducible show wpAny _ _ (call (Value.ref 264) _) _ _ _); k_dflt (refine' spec_add ?sX ?sT ?sb ?sr ?su ?sh ?sR ?sV ?sD ?sA ?sF ?sk ?sv ?_ ?_ ?_; (case sb => exact keep_base (by k_asm) (by k_asm)); (case sX => k_asm); (case sT => k_asm); (case sr => k_room); (case su => k_units); (case sh => k_asm); (case sA => exact Around.frames_deeper (by k_asm)); (case sF => exact frames_push (by k_asm) (FramesOk.keep (by k_asm) (by ktr_rel)) (by first | exact rfl | k_asm) rfl); (case sR => exact refs_at3 (by k_asm) (by k_asm) (by k_asm) rfl (by k_asm) (by k_mem) (by k_mem) (by k_mem) (by k_asm) (by k_asm)); (case sV => k_asm); (case sD => k_asm); (case sk => k_asm); (case sv => k_asm)); (all_goals first | ((with_reducible intro hv' hg' h' tk' o' kk' ed' bd'); (k_dflt (have F' := fr_turn (by k_asm) (by k_asm) (by k_mem) kk')); (k_dflt (have N' := news_turn (by k_asm) (by k_updF) kk' ed')); (try dsimp only at N'); (try k_sweep)) | ((with_reducible intro hv' hs' h' tk' kk'); (have F' := fr_keepAll (by k_asm) kk'); (have N' := news_keepAll (by k_asm) kk'); (try k_sweep)) | ((with_reducible intro hv' h' tk' e' R'); (with_reducible replace R' : RaisedH _ _ _ _ _ := R'))))
  trivial
section
variable {p9 : Program} {lo9 : List Str} {w : World} {A : Around} {s : Shared} {base : Heap} {mg mb : Str → Option Value} {mean : ExcName → Option Value} {Q E : Value → Shared → Prop}
example : True := by
  k_with "gY2 eval Call Attribute" => (refine MethodCall_9 (by k_asm) rfl ?_)
  k_with "gY2 eval Name" => (k_here; (refine' name_F9 ?nF ?nk ?nf ?nm ?no ?nd ?_ ?nb ?nn; (case nF => with_reducible assumption); (case nk => with_reducible assumption); (case nf => with_reducible assumption); (case nm => k_mem); (case no => with_reducible assumption); (case nd => with_reducible assumption); (case nb => decide); (case nn => decide)))
  trivial
set_option maxHeartbeats 4000000 in
theorem done_add {g : Heap} {L r dg dx dp f9 : Addr} {t1 t2 : Tok} {m : Str → Option Value} {news : List (Addr × Obj)} {og : Obj} {D : DD} {env9 : Env} {u : Obj → List (Addr × Obj)} {p1 p2 p3 p5 p6 : Pos} {cR cG cF : Addr} {oR oG oF : Obj} {k fr : Bts} {t tf : Tok} (X : (hd.heap_1 w.params).In g) (T : Top p9 lo9 mean mg mb g) (F : Fr g L s.heap m) (N : News g L s.heap news) (hA : A.frames = some [env9]) (hk9 : env9.scope.kind = .function) (hf9 : env9.frame = some L) (hroom : A.depth + 40 < recursionLimit) (hun : A.units + 400 < cLine) (hhd : A.handled = none)
    (m1 : (dg, og) ∈ news) (m2 : (r, instObj 281 dx) ∈ news) (m3 : (dx, refsDict w t1 t2 dg dp) ∈ news) (hB : BObj w og D) (lo : (dg == sysModules) = false) (gD : Good D) (mR : (cR, oR) ∈ news) (dR : oR.data = .cell (some (Value.ref r))) (mG : (cG, oG) ∈ news) (dG : oG.data = .cell (some (Value.bytes k.toArray t))) (mF : (cF, oF) ∈ news) (dF : oF.data = .cell (some (Value.bytes fr.toArray tf))) (hG : AllBare s.gens) (LA : LamAt s.heap f9 (.Call (.Attribute (.Name (Str.ofString "refs") p1) (Str.ofString "add_if_new") p2) [.Name (Str.ofString "good") p3, .Name (Str.ofString "fresh") p5] [] p6) [(Str.ofString "refs", cR), (Str.ofString "good", cG), (Str.ofString "fresh", cF)]) (U : UpdF dg og news u) (hp9 : (p2.endLine == p6.line) = true) (hk : k.length ≤ 64) (hv : fr ∈ vals6)
    (h : ∀ v1 h' g' d' tk' o', WordIs (addOut D k fr).1 v1 → Fr g L h' m → News g L h' (u o') → BObj w o' ((addOut D k fr).2) → AllBare g' → Q v1 { s with heap := h', gens := g', drawn := d', toks := tk' }) :
    wpAny (model PG w) A (call (.ref 346) [.ref f9]) Q E s := by
  have hfs : FramesOk s.heap [env9] := frames_push (l := []) F trivial hk9 hf9
  have hbf : ∀ b ∈ frs [env9], g.get? b = none := base_frames F hf9 base_self (fun _ h => nomatch h)
  have R : RefsAt w g [env9] s.heap r dg D := refs_at3 no_frs F N hf9 base_self m1 m2 m3 hB lo
  have qmR : s.heap.get? cR = some oR := (N _ mR).1
  have qmG : s.heap.get? cG = some oG := (N _ mG).1
  have qmF : s.heap.get? cF = some oF := (N _ mF).1
  have hst : ∀ h', Keep [dg] s.heap h' → (∃ o', h'.get? dg = some o' ∧ BObj w o' ((addOut D k fr).2)) → ∃ o', Fr g L h' m ∧ News g L h' (u o') ∧ BObj w o' ((addOut D k fr).2) := by
    rintro h' kk ⟨o', e1, b1⟩
    exact ⟨o', fr_turn F N m1 kk, news_turn N U kk e1, b1⟩
  have same : ∀ h', KeepF [env9] s.heap h' → ((addOut D k fr).2) = D → ∃ o', Fr g L h' m ∧ News g L h' (u o') ∧ BObj w o' ((addOut D k fr).2) := by
    intro h' kk e
    refine ⟨og, fr_keepF F kk hf9, ?_, by rw [e]; exact hB⟩
    have N2 := news_keepF N kk hf9
    have e1 : u og = news := by
      obtain ⟨own, rest, q1, q2, -⟩ := U.split
      rw [q2, ← q1]
    rw [e1]; exact N2
  refine spec_done (w := w) (base := g) (Ret := fun fs v1 h h' => WordIs (addOut D k fr).1 v1 ∧ ((Keep [dg] h h' ∧ ∃ o', h'.get? dg = some o' ∧ BObj w o' ((addOut D k fr).2)) ∨ (KeepF fs h h' ∧ ((addOut D k fr).2) = D)))
    (Rais := fun c => c = .type "ValueError" ∧ addOut D k fr = (.inr wValue, D)) X T (keep_base F base_self) (by omega) (by omega) hhd hA hfs hbf ?mono ?hr LA.fn ?deed ?ok ?bad
  case mono =>
    rintro env L1 v1 h0 h1 h2 hf hL kk ⟨a, ⟨b, c⟩ | ⟨b, c⟩⟩
    · exact ⟨a, .inl ⟨fun q o n e => b q o n (kk q o e), c⟩⟩
    · exact ⟨a, .inr ⟨keepF_pop hf hL kk b, c⟩⟩
  case hr =>
    rintro c ⟨rfl, -⟩; simp [okCls]
  case ok =>
    rintro v1 h' g' d' tk' ag ⟨a, ⟨b, c⟩ | ⟨b, c⟩⟩
    · obtain ⟨o', z1, z2, z3⟩ := hst h' b c
      exact h v1 h' g' d' tk' o' a z1 z2 z3 ag
    · obtain ⟨o', z1, z2, z3⟩ := same h' b c
      exact h v1 h' g' d' tk' o' a z1 z2 z3 ag
  case bad =>
    rintro c h' tk' t' ⟨rfl, e⟩ kk
    obtain ⟨o', z1, z2, z3⟩ := same h' kk (by rw [e])
    exact h _ h' s.gens s.drawn tk' o' (by rw [e]; exact ⟨_, rfl⟩) z1 z2 z3 hG
  case deed =>
    refine' fun A' env L1 s1 Q1 E1 hA1 hd1 hu1 hh1 hfs1 hg1 ho1 hbf1 hf1 hL1 hk1 hret hrais => ?_
    have hb1 : KeepAll g s1.heap := fun b o e => hk1 b o (F.keep b o e)
    have R1 := (R.keep hk1).push R hk1 hf1 hL1
    have hG1 : AllBare s1.gens := by rw [hg1]; exact hG
    refine enter_lamAt (LA.keep hk1) ((T.keeps hb1).nolimit) (by omega) fun L' h' qual scope clos c' hL hks hfv F' => ?_
    obtain ⟨dx, dp, t1, t2, o, F1, N1, X1, T1, hB, lo, n1, n2, n3, e1, e2, e3, hbg, sp⟩ := R1.open F' X T hb1
    clear F'
    have cmR := cell_off (hk1 _ _ qmR) dR e1 hB e2 e3
    have cmG := cell_off (hk1 _ _ qmG) dG e1 hB e2 e3
    have cmF := cell_off (hk1 _ _ qmF) dF e1 hB e2 e3
    clear R hst same
    have gV := gD.vals
    have gL := gD.len100
    (try dsimp only)
    (try k_fold)
    k_steps
    · exact hret _ _ _ _ _ hG1 ⟨by rw [addOut_yes (by k_asm) (by k_asm)]; exact rfl, .inl ⟨(refs_turn (by k_asm) (by k_asm) (by k_mem) (by k_mem) (by k_asm) (by k_asm)), _, (News.get (by k_asm) (by k_mem)), by rw [addOut_yes (by k_asm) (by k_asm)]; assumption⟩⟩
    · exact hret _ _ _ _ _ hG1 ⟨by rw [addOut_no (by k_asm) (by k_asm)]; exact rfl, .inr ⟨(KeepF.of (by ktr_rel)), by rw [addOut_no (by k_asm) (by k_asm)]⟩⟩
    · exact leave_on hA1 rfl (hL ▸ fresh_size _) (by ktr_rel) (by k_asm) fun _ R => hrais _ _ _ _ ⟨rfl, addOut_bad (by k_asm)⟩ R
end
end
example : ∀ w A s Q E, TZ w A s Q E → TZ w A s Q E := by intro w A s Q E h; w_top off; first | (walk1; fail) | exact h
section
section
variable {prog : Program} {w : World} {A : Around} {E : Value → Shared → Prop} {s : Shared} {Q : Value → Shared → Prop}
theorem name_G9 {M : Model} {K : Frag} {g : Heap} {L a f : Addr} {m mg mb : Str → Option Value} {cn : Str} {cs : Scope} {ccd : Value} {cl : List (Str × Addr)} {p : Program} {loose : List Str} {x : Str} {pos : Pos} {gl : List Str} (F : Fr g L s.heap m) (X : K.In g) (T : TopRead p loose mg mb g) (e : nsIn K mainGlobals x = some (some (.ref f)))
    (hk : cs.kind = .function) (hg : ∀ x ∈ gl, cs.names.lookup x = some .globalImplicit) (hm : x ∈ gl) (h : Q (.ref f) s) (hd : (x == ("__debug__" : Str)) = false := by decide) :
    wpAny M A (eval (.Name x pos) (envX cn cs L a ccd cl)) Q E s := nameX_K F X T e h hk (hg _ hm) hd
end
end
example : ∀ w A s Q E, TZ w A s Q E → TZ w A s Q E := by intro w A s Q E h; w_top off; first | (walk1; fail) | exact h
section
section
variable {w : World} {A : Around} {E : Value → Shared → Prop} {s : Shared} {I lD dp rr dx dh dg L fa : Addr} {oI ol op oh og oR oO oG oF oS : Obj} {t1 t2 : Tok} {ps ps3 : Array Value} {codes : List (Addr × Obj)} {p9 : Program} {lo9 : List Str} {mg mb m : Str → Option Value} {mean : ExcName → Option Value} {g : Heap} {cs : Scope}
noncomputable abbrev lamQ : Str := Str.ofString "law" ++ Str.ofString ".<locals>." ++ Str.ofString "<lambda>"
theorem law_lamS {params : Arguments} {body : PySem.Expr} {scope : Scope} {pos : Pos} {clos fv : List (Str × Addr)} {gl : List Str} {Q : Value → Shared → Prop} (F : Fr g L s.heap m)
    (N : News g L s.heap (LNews I lD dp rr dx dh dg L oI ol op (instObj 281 dx) (refsDict w t1 t2 dg dp) oh og oR oO oG oF oS (tabObj ps) (tabObj ps3) codes)) (ap : Apart I lD dp rr dx dh dg L codes) (T : Top p9 lo9 mean mg mb g) (hc : CodeHd g 350 348) (hco : CodesOk lamQ ps codes)
    (h : ∀ f fo h' tk' ps' codes', Fr g L h' m → News g L h' ((f, fo) :: LNews I lD dp rr dx dh dg L oI ol op (instObj 281 dx) (refsDict w t1 t2 dg dp) oh og oR oO oG oF oS (tabObj ps') (tabObj ps3) codes') → Apart I lD dp rr dx dh dg L codes' → CodesOk lamQ ps' codes' → LamAtG h' f body fv gl →
      @LT.lt Nat _ I f → (∀ p ∈ codes, p ∈ codes') → Q (.ref f) { s with heap := h', toks := tk' })
    (hcl : closureFor scope (envOfC (Str.ofString "law") cs L fa (.ref 350)) = pure clos) (hdef : defaultsOf params (envOfC (Str.ofString "law") cs L fa (.ref 350)) = ([], []))
    (hbind : ∀ name qual clos pm cdv ctv, bindArgs (kla_fn name qual params body scope clos pm cdv ctv) ⟨[], []⟩ = pure []) (s1 : scope.isCoroutine = false) (s2 : scope.isGenerator = false) (s3 : scope.kind = .function) (s4 : ∀ x ∈ scope.names, x.2 ≠ .cell)
    (s5 : ∀ p ∈ fv, scope.names.lookup p.1 = some .free ∧ clos.lookup p.1 = some p.2) (s6 : ∀ x ∈ gl, scope.names.lookup x = some .globalImplicit) :
    wpAny (model PG w) A (eval (.Lambda params body scope pos) (envOfC (Str.ofString "law") cs L fa (.ref 350))) Q E s := by
  refine lam_any (cn := Str.ofString "law") (cs := cs) (L := L) (a := fa) (ccd := .ref 350) (cl := cellsFrom (L + 1) cs.names []) F N T hc rfl (upd4 ap) hco (fun x hx => ?_) hcl hdef fun f c' ctv pm extra ps' h' tk F' N' co' cr l1 l2 => ?_
  · exact List.mem_append_right [(I, oI), (lD, ol), (dp, op), (rr, instObj 281 dx), (dx, refsDict w t1 t2 dg dp), (dh, oh), (dg, og), (L + 1 + 1 + 1 + 1 + 1, oR), (L + 1 + 1 + 1 + 1, oO), (L + 1 + 1 + 1, oG), (L + 1 + 1, oF), (L + 1, oS), (348, tabObj ps), (103, tabObj ps3)] hx
  have N2 := news_shift (codes := codes) [(I, oI), (lD, ol), (dp, op), (rr, instObj 281 dx), (dx, refsDict w t1 t2 dg dp), (dh, oh), (dg, og), (L + 1 + 1 + 1 + 1 + 1, oR), (L + 1 + 1 + 1 + 1, oO), (L + 1 + 1 + 1, oG), (L + 1 + 1, oF), (L + 1, oS), (348, tabObj ps'), (103, tabObj ps3)] N'
  refine h f _ h' tk ps' (extra ++ codes) F' N2 ?_ co' ⟨_, _, params, scope, clos, pm, c', ctv, (N' _ (.head _)).1, cr, hbind _ _ _ _ _ _, s1, s2, s3, s4, s5, s6⟩ (l2 (I, oI) (.head _)) fun p hp => List.mem_append_right _ hp
  obtain ⟨a1, a2, a3, a4, a5, a6, a7, a8, a9, a10, a11, a12⟩ := id ap
  refine ⟨a1, a2, a3, a4, a5, a6, a7, a8, a9, a10, a11, fun p hp => ?_⟩
  rcases List.mem_append.mp hp with hp | hp
  · have h1 : @LT.lt Nat _ I p.1 := l1 p hp (I, oI) (.head _)
    intro b hb
    rcases List.mem_cons.mp hb with rfl | hb
    · exact Nat.ne_of_gt h1
    rcases List.mem_cons.mp hb with rfl | hb
    · exact Nat.ne_of_gt (Nat.lt_of_le_of_lt a11 h1)
    · exact Nat.ne_of_gt (Nat.lt_trans (ap.low b hb) (Nat.lt_of_le_of_lt a11 h1))
  · exact a12 p hp
theorem law_lam {params : Arguments} {body : PySem.Expr} {scope : Scope} {pos : Pos} {clos fv : List (Str × Addr)} {gl : List Str} {Q : Value → Shared → Prop} (F : Fr g L s.heap m)
    (N : News g L s.heap (LNews I lD dp rr dx dh dg L oI ol op (instObj 281 dx) (refsDict w t1 t2 dg dp) oh og oR oO oG oF oS (tabObj ps) (tabObj ps3) codes)) (ap : Apart I lD dp rr dx dh dg L codes) (T : Top p9 lo9 mean mg mb g) (hc : CodeHd g 350 348) (hco : CodesOk lamQ ps codes)
    (h : ∀ f fo h' tk' ps' codes', Fr g L h' m → News g L h' ((f, fo) :: LNews I lD dp rr dx dh dg L oI ol op (instObj 281 dx) (refsDict w t1 t2 dg dp) oh og oR oO oG oF oS (tabObj ps') (tabObj ps3) codes') → Apart I lD dp rr dx dh dg L codes' → CodesOk lamQ ps' codes' → LamAtG h' f body fv gl →
      @LT.lt Nat _ I f → Q (.ref f) { s with heap := h', toks := tk' })
    (hcl : closureFor scope (envOfC (Str.ofString "law") cs L fa (.ref 350)) = pure clos) (hdef : defaultsOf params (envOfC (Str.ofString "law") cs L fa (.ref 350)) = ([], []))
    (hbind : ∀ name qual clos pm cdv ctv, bindArgs (kla_fn name qual params body scope clos pm cdv ctv) ⟨[], []⟩ = pure []) (s1 : scope.isCoroutine = false) (s2 : scope.isGenerator = false) (s3 : scope.kind = .function) (s4 : ∀ x ∈ scope.names, x.2 ≠ .cell)
    (s5 : ∀ p ∈ fv, scope.names.lookup p.1 = some .free ∧ clos.lookup p.1 = some p.2) (s6 : ∀ x ∈ gl, scope.names.lookup x = some .globalImplicit) :
    wpAny (model PG w) A (eval (.Lambda params body scope pos) (envOfC (Str.ofString "law") cs L fa (.ref 350))) Q E s :=
  law_lamS F N ap T hc hco (fun f fo h' tk' ps' codes' a b c d e l _ => h f fo h' tk' ps' codes' a b c d e l) hcl hdef hbind s1 s2 s3 s4 s5 s6
end
end
example : ∀ w A s Q E, TZ w A s Q E → TZ w A s Q E := by intro w A s Q E h; w_top off; first | (walk1; fail) | exact h
section
def gY3.siteTag : Unit := ()
open gY3
example : True := by
  k_with "gY3 call ref" => (k_here; (try dsimp only [List.nil_append, List.cons_append, List.append_nil]); (with_reducible show wpAny _ _ (call (Value.ref 271) _) _ _ _); k_dflt (refine' spec_remove ?sX ?sT ?sb ?sr ?su ?sh ?sR ?sD ?sA ?sF ?sb2 ?so ?sl ?_ ?_ ?_; (case sb => exact keep_base (by k_asm) (by k_asm)); (case sX => k_asm); (case sT => k_asm); (case sr => k_room); (case su => k_units); (case sh => k_asm); (case sA => exact Around.frames_deeper (by k_asm)); (case sF => exact frames_push (by k_asm) (FramesOk.keep (by k_asm) (by ktr_rel)) (by first | exact rfl | k_asm) rfl); (case sR => exact refs_at3 (by k_asm) (by k_asm) (by k_asm) rfl (by k_asm) (by k_mem) (by k_mem) (by k_mem) (by k_asm) (by k_asm)); (case sD => k_asm); (case sb2 => exact base_frames (by k_asm) rfl (by k_asm) (by k_asm)); (case so => (first | exact resNone | exact resSome | k_asm)); (case sl => with_reducible assumption)); (all_goals first | ((with_reducible intro ho' hs' h' tk' o' kk' ed' bd'); (k_dflt (have F' := fr_turn (by k_asm) (by k_asm) (by k_mem) kk')); (k_dflt (have N' := news_turn (by k_asm) (by k_updF) kk' ed')); (try dsimp only at N'); (try k_sweep)) | ((with_reducible intro ho' hs' h' tk' kk'); (with_reducible replace kk' : KeepF _ _ _ := kk')) | ((with_reducible intro ho' h' tk' kk'); (have F' := fr_keepAll (by k_asm) kk'); (have N' := news_keepAll (by k_asm) kk'); (try k_sweep))))
  trivial
section
variable {p9 : Program} {lo9 : List Str} {w : World} {A : Around} {s : Shared} {base : Heap} {mg mb : Str → Option Value} {mean : ExcName → Option Value} {Q E : Value → Shared → Prop}
example : True := by
  k_with "gY3 eval Call Attribute" => (refine MethodCall_9 (by k_asm) rfl ?_)
  k_with "gY3 eval Name" => (k_here; (refine' name_F9 ?nF ?nk ?nf ?nm ?no ?nd ?_ ?nb ?nn; (case nF => with_reducible assumption); (case nk => with_reducible assumption); (case nf => with_reducible assumption); (case nm => k_mem); (case no => with_reducible assumption); (case nd => with_reducible assumption); (case nb => decide); (case nn => decide)))
  trivial
set_option maxHeartbeats 4000000 in
theorem done_rem {g : Heap} {L r dg dx dp f9 : Addr} {t1 t2 : Tok} {m : Str → Option Value} {news : List (Addr × Obj)} {og : Obj} {D : DD} {env9 : Env} {u : Obj → List (Addr × Obj)} {p1 p2 p3 p4 p6 : Pos} {cR cS cO : Addr} {oR oS oO : Obj} {k : Bts} {t : Tok} {ov : Value} {old : Option Bts} (X : (hd.heap_1 w.params).In g) (T : Top p9 lo9 mean mg mb g) (F : Fr g L s.heap m) (N : News g L s.heap news) (hA : A.frames = some [env9]) (hk9 : env9.scope.kind = .function) (hf9 : env9.frame = some L) (hroom : A.depth + 40 < recursionLimit) (hun : A.units + 400 < cLine) (hhd : A.handled = none)
    (m1 : (dg, og) ∈ news) (m2 : (r, instObj 281 dx) ∈ news) (m3 : (dx, refsDict w t1 t2 dg dp) ∈ news) (hB : BObj w og D) (lo : (dg == sysModules) = false) (gD : Good D) (mR : (cR, oR) ∈ news) (dR : oR.data = .cell (some (Value.ref r))) (mS : (cS, oS) ∈ news) (dS : oS.data = .cell (some (Value.bytes k.toArray t))) (mO : (cO, oO) ∈ news) (dO : oO.data = .cell (some (ov))) (hG : AllBare s.gens) (LA : LamAt s.heap f9 (.Call (.Attribute (.Name (Str.ofString "refs") p1) (Str.ofString "remove_if_equals") p2) [.Name (Str.ofString "spot") p3, .Name (Str.ofString "old") p4] [] p6) [(Str.ofString "refs", cR), (Str.ofString "spot", cS), (Str.ofString "old", cO)]) (U : UpdF dg og news u) (hp9 : (p2.endLine == p6.line) = true) (ho : ResIs old ov) (hol : ∀ b, old = some b → b.length ≤ 64)
    (h : ∀ v1 h' g' d' tk' o', WordIs (remOut D k old).1 v1 → Fr g L h' m → News g L h' (u o') → BObj w o' ((remOut D k old).2) → AllBare g' → Q v1 { s with heap := h', gens := g', drawn := d', toks := tk' }) :
    wpAny (model PG w) A (call (.ref 346) [.ref f9]) Q E s := by
  have hfs : FramesOk s.heap [env9] := frames_push (l := []) F trivial hk9 hf9
  have hbf : ∀ b ∈ frs [env9], g.get? b = none := base_frames F hf9 base_self (fun _ h => nomatch h)
  have R : RefsAt w g [env9] s.heap r dg D := refs_at3 no_frs F N hf9 base_self m1 m2 m3 hB lo
  have qmR : s.heap.get? cR = some oR := (N _ mR).1
  have qmS : s.heap.get? cS = some oS := (N _ mS).1
  have qmO : s.heap.get? cO = some oO := (N _ mO).1
  have hst : ∀ h', Keep [dg] s.heap h' → (∃ o', h'.get? dg = some o' ∧ BObj w o' ((remOut D k old).2)) → ∃ o', Fr g L h' m ∧ News g L h' (u o') ∧ BObj w o' ((remOut D k old).2) := by
    rintro h' kk ⟨o', e1, b1⟩
    exact ⟨o', fr_turn F N m1 kk, news_turn N U kk e1, b1⟩
  have same : ∀ h', KeepF [env9] s.heap h' → ((remOut D k old).2) = D → ∃ o', Fr g L h' m ∧ News g L h' (u o') ∧ BObj w o' ((remOut D k old).2) := by
    intro h' kk e
    refine ⟨og, fr_keepF F kk hf9, ?_, by rw [e]; exact hB⟩
    have N2 := news_keepF N kk hf9
    have e1 : u og = news := by
      obtain ⟨own, rest, q1, q2, -⟩ := U.split
      rw [q2, ← q1]
    rw [e1]; exact N2
  refine spec_done (w := w) (base := g) (Ret := fun fs v1 h h' => WordIs (remOut D k old).1 v1 ∧ ((Keep [dg] h h' ∧ ∃ o', h'.get? dg = some o' ∧ BObj w o' ((remOut D k old).2)) ∨ (KeepF fs h h' ∧ ((remOut D k old).2) = D)))
    (Rais := fun c => False) X T (keep_base F base_self) (by omega) (by omega) hhd hA hfs hbf ?mono ?hr LA.fn ?deed ?ok ?bad
  case mono =>
    rintro env L1 v1 h0 h1 h2 hf hL kk ⟨a, ⟨b, c⟩ | ⟨b, c⟩⟩
    · exact ⟨a, .inl ⟨fun q o n e => b q o n (kk q o e), c⟩⟩
    · exact ⟨a, .inr ⟨keepF_pop hf hL kk b, c⟩⟩
  case hr =>
    exact fun _ q => q.elim
  case ok =>
    rintro v1 h' g' d' tk' ag ⟨a, ⟨b, c⟩ | ⟨b, c⟩⟩
    · obtain ⟨o', z1, z2, z3⟩ := hst h' b c
      exact h v1 h' g' d' tk' o' a z1 z2 z3 ag
    · obtain ⟨o', z1, z2, z3⟩ := same h' b c
      exact h v1 h' g' d' tk' o' a z1 z2 z3 ag
  case bad =>
    exact fun c h' tk' t' q => q.elim
  case deed =>
    refine' fun A' env L1 s1 Q1 E1 hA1 hd1 hu1 hh1 hfs1 hg1 ho1 hbf1 hf1 hL1 hk1 hret hrais => ?_
    have hb1 : KeepAll g s1.heap := fun b o e => hk1 b o (F.keep b o e)
    have R1 := (R.keep hk1).push R hk1 hf1 hL1
    have hG1 : AllBare s1.gens := by rw [hg1]; exact hG
    refine enter_lamAt (LA.keep hk1) ((T.keeps hb1).nolimit) (by omega) fun L' h' qual scope clos c' hL hks hfv F' => ?_
    obtain ⟨dx, dp, t1, t2, o, F1, N1, X1, T1, hB, lo, n1, n2, n3, e1, e2, e3, hbg, sp⟩ := R1.open F' X T hb1
    clear F'
    have cmR := cell_off (hk1 _ _ qmR) dR e1 hB e2 e3
    have cmS := cell_off (hk1 _ _ qmS) dS e1 hB e2 e3
    have cmO := cell_off (hk1 _ _ qmO) dO e1 hB e2 e3
    clear R hst same
    have gV := gD.vals
    have gL := gD.len100
    (try dsimp only)
    (try k_fold)
    k_steps
    · exact hret _ _ _ _ _ hG1 ⟨by rw [remOut_yes (by k_asm) (by k_asm)]; exact rfl, .inl ⟨(refs_turn (by k_asm) (by k_asm) (by k_mem) (by k_mem) (by k_asm) (by k_asm)), _, (News.get (by k_asm) (by k_mem)), by rw [remOut_yes (by k_asm) (by k_asm)]; assumption⟩⟩
    · rename KeepF _ _ _ => kk9
      exact hret _ _ _ _ _ hG1 ⟨by rw [remOut_nil (by k_asm) (by k_asm)]; exact rfl, .inr ⟨keepF_pop rfl (hL ▸ fresh_size _) (by ktr_rel) kk9, by rw [remOut_nil (by k_asm) (by k_asm)]⟩⟩
    · exact hret _ _ _ _ _ hG1 ⟨by rw [remOut_no (by k_asm)]; exact rfl, .inr ⟨(KeepF.of (by ktr_rel)), by rw [remOut_no (by k_asm)]⟩⟩
end
end
example : ∀ w A s Q E, TZ w A s Q E → TZ w A s Q E := by intro w A s Q E h; w_top off; first | (walk1; fail) | exact h
section
def gY4.siteTag : Unit := ()
open gY4
example : True := by
  k_with "gY4 call ref" => (k_here; (try dsimp only [List.nil_append, List.cons_append, List.append_nil]); (with_reducible show wpAny _ _ (call (Value.ref 339) _) _ _ _); k_dflt (refine' spec_put ?sX ?sT ?sb ?sr ?su ?sh ?sR ?sV ?sD ?sA ?sF ?sk ?sv ?sC ?sG ?_ ?_ ?_; (case sb => exact keep_base (by k_asm) (by k_asm)); (case sX => k_asm); (case sT => k_asm); (case sr => k_room); (case su => k_units); (case sh => k_asm); (case sA => exact Around.frames_deeper (by k_asm)); (case sF => exact frames_push (by k_asm) (FramesOk.keep (by k_asm) (by ktr_rel)) (by first | exact rfl | k_asm) rfl); (case sR => exact refs_at3 (by k_asm) (by k_asm) (by k_asm) rfl (by k_asm) (by k_mem) (by k_mem) (by k_mem) (by k_asm) (by k_asm)); (case sV => k_asm); (case sD => k_asm); (case sk => k_asm); (case sv => k_asm); (case sC => exact ColAt.keep (by k_asm) (by ktr_rel)); (case sG => k_asm)); (all_goals first | ((have hc9 := ColAt.keep (by k_asm) (by ktr_rel)); (with_reducible intro hv' hk' h' g' d' tk' o' kk' ed' bd' cc' ag'); (have off9 := ColAt.off hc9 (by k_asm) (by (repeat' (first | exact all_nil | (with_reducible refine all_cons ?_ ?_))); (all_goals first | exact bobj_cls (by k_asm) | (intro q9; cases q9; done)))); (have ne9 := offAll off9); (simp only [AllNe, and_true] at ne9); (obtain ⟨ps', et', tr'⟩ := id (ColAt.tab cc')); (have hb2' := base_col cc' (by k_asm)); (k_dflt (have N' := news_col2 (by k_asm) (by k_asm) (by k_updF) (by k_asm) cc' kk' ed' off9 et')); (try dsimp only at N'); (k_dflt (have F' := fr_col2 (by k_asm) (by k_asm) (by k_mem) (by k_asm) cc' kk')); (have X' := Frag.In.keeps (by k_asm) hb2'); (have T' := Top.keeps (by k_asm) hb2'); (try k_sweep)) | ((with_reducible intro hv' hk' h' tk' e' R'); (with_reducible replace R' : RaisedH _ _ _ _ _ := R')) | ((with_reducible intro hv' h' tk' e' R'); (with_reducible replace R' : RaisedH _ _ _ _ _ := R'))))
  trivial
section
variable {p9 : Program} {lo9 : List Str} {w : World} {A : Around} {s : Shared} {base : Heap} {mg mb : Str → Option Value} {mean : ExcName → Option Value} {Q E : Value → Shared → Prop}
example : True := by
  k_with "gY4 eval Name" => (k_here; refine' name_G9 ?nF ?nX ?nT ?ne ?nk ?ng ?nm ?_ ?nd; (case nF => with_reducible assumption); (case nX => k_asm); (case nT => exact topRead_of (by k_asm)); (case ne => k_is); (case nk => with_reducible assumption); (case ng => with_reducible assumption); (case nm => k_mem); (case nd => decide))
  k_with "gY4 eval Call Attribute" => (refine MethodCall_9 (by k_asm) rfl ?_)
  k_with "gY4 eval Name" => (k_here; (refine' name_F9 ?nF ?nk ?nf ?nm ?no ?nd ?_ ?nb ?nn; (case nF => with_reducible assumption); (case nk => with_reducible assumption); (case nf => with_reducible assumption); (case nm => k_mem); (case no => with_reducible assumption); (case nd => with_reducible assumption); (case nb => decide); (case nn => decide)))
  trivial
set_option maxHeartbeats 4000000 in
theorem done_put {g : Heap} {L r dg dx dp f9 : Addr} {t1 t2 : Tok} {m : Str → Option Value} {news : List (Addr × Obj)} {og : Obj} {D : DD} {env9 : Env} {ps3 : Array Value} {u : Obj → List (Addr × Obj)} {v : Obj → Obj → List (Addr × Obj)} {p1 p2 p3 p4 p6 : Pos} {cR cS cF : Addr} {oR oS oF : Obj} {k fr : Bts} {t tf : Tok} (X : (hd.heap_1 w.params).In g) (T : Top p9 lo9 mean mg mb g) (F : Fr g L s.heap m) (N : News g L s.heap news) (hA : A.frames = some [env9]) (hk9 : env9.scope.kind = .function) (hf9 : env9.frame = some L) (hroom : A.depth + 40 < recursionLimit) (hun : A.units + 400 < cLine) (hhd : A.handled = none)
    (m1 : (dg, og) ∈ news) (m2 : (r, instObj 281 dx) ∈ news) (m3 : (dx, refsDict w t1 t2 dg dp) ∈ news) (hB : BObj w og D) (lo : (dg == sysModules) = false) (gD : Good D) (mR : (cR, oR) ∈ news) (dR : oR.data = .cell (some (Value.ref r))) (mS : (cS, oS) ∈ news) (dS : oS.data = .cell (some (Value.bytes k.toArray t))) (mF : (cF, oF) ∈ news) (dF : oF.data = .cell (some (Value.bytes fr.toArray tf))) (hG : AllBare s.gens) (LA : LamAtG s.heap f9 (.Call (.Name (Str.ofString "_law_put") p1) [.Name (Str.ofString "refs") p2, .Name (Str.ofString "spot") p3, .Name (Str.ofString "fresh") p4] [] p6) [(Str.ofString "refs", cR), (Str.ofString "spot", cS), (Str.ofString "fresh", cF)] [Str.ofString "_law_put"]) (mt : (103, tabObj ps3) ∈ news) (ht3 : TriplesOk ps3.toList) (hcol : CodeHd g 107 103) (U : UpdF dg og news u) (V : ∀ o', UpdF 103 (tabObj ps3) (u o') (v o'))
    (hk : k ∈ names9) (hv : fr ∈ vals6)
    (h : ∀ v1 h' g' d' tk' o' ps', PutIs (putOut D k fr).1 v1 → Fr g L h' m → News g L h' (v o' (tabObj ps')) → BObj w o' (putOut D k fr).2 → TriplesOk ps'.toList → AllBare g' → Q v1 { s with heap := h', gens := g', drawn := d', toks := tk' }) :
    wpAny (model PG w) A (call (.ref 346) [.ref f9]) Q E s := by
  have hfs : FramesOk s.heap [env9] := frames_push (l := []) F trivial hk9 hf9
  have hbf : ∀ b ∈ frs [env9], g.get? b = none := base_frames F hf9 base_self (fun _ h => nomatch h)
  have R : RefsAt w g [env9] s.heap r dg D := refs_at3 no_frs F N hf9 base_self m1 m2 m3 hB lo
  have qmR : s.heap.get? cR = some oR := (N _ mR).1
  have qmS : s.heap.get? cS = some oS := (N _ mS).1
  have qmF : s.heap.get? cF = some oF := (N _ mF).1
  have C : ColAt g s.heap := ⟨hcol, (N _ mt).2.2, ps3, (N _ mt).1, ht3⟩
  have hst : ∀ h', Keep [dg, 103] s.heap h' → (∃ o', h'.get? dg = some o' ∧ BObj w o' (putOut D k fr).2) → ColAt g h' → ∃ o' ps', Fr g L h' m ∧ News g L h' (v o' (tabObj ps')) ∧ BObj w o' (putOut D k fr).2 ∧ TriplesOk ps'.toList := by
    rintro h' kk ⟨o', e1, b1⟩ c1
    obtain ⟨ps', e2, tr⟩ := c1.tab
    exact ⟨o', ps', fr_turn2 F N m1 mt kk, news_turn2 N U (V o') kk e1 e2 mt, b1, tr⟩
  have same : ∀ h', KeepF [env9] s.heap h' → (putOut D k fr).2 = D → ∃ o' ps', Fr g L h' m ∧ News g L h' (v o' (tabObj ps')) ∧ BObj w o' (putOut D k fr).2 ∧ TriplesOk ps'.toList := by
    intro h' kk e
    refine ⟨og, ps3, fr_keepF F kk hf9, ?_, by rw [e]; exact hB, ht3⟩
    have N2 := news_keepF N kk hf9
    have e1 : v og (tabObj ps3) = news := by
      obtain ⟨own, rest, q1, q2, -⟩ := U.split
      obtain ⟨own2, rest2, q3, q4, -⟩ := (V og).split
      rw [q4, ← q3, q2, ← q1]
    rw [e1]; exact N2
  refine spec_done (w := w) (base := g) (Ret := fun fs v1 h h' => PutIs (putOut D k fr).1 v1 ∧ Keep [dg, 103] h h' ∧ (∃ o', h'.get? dg = some o' ∧ BObj w o' (putOut D k fr).2) ∧ ColAt g h')
    (Rais := fun c => (c = .ref 31 ∧ putOut D k fr = (some wName, D)) ∨ (c = .type "ValueError" ∧ putOut D k fr = (some wValue, D))) X T (keep_base F base_self) (by omega) (by omega) hhd hA hfs hbf ?mono ?hr LA.lam.fn ?deed ?ok ?bad
  case mono =>
    rintro env L1 v1 h0 h1 h2 hf hL kk ⟨a, b, c, d⟩
    exact ⟨a, fun q o n e => b q o n (kk q o e), c, d⟩
  case hr =>
    rintro c (⟨rfl, -⟩ | ⟨rfl, -⟩) <;> simp [okCls]
  case ok =>
    rintro v1 h' g' d' tk' ag ⟨a, b, c, d⟩
    obtain ⟨o', ps', z1, z2, z3, z4⟩ := hst h' b c d
    exact h v1 h' g' d' tk' o' ps' a z1 z2 z3 z4 ag
  case bad =>
    rintro c h' tk' t' hc kk
    have e : (putOut D k fr).2 = D := by rcases hc with ⟨-, e⟩ | ⟨-, e⟩ <;> rw [e]
    obtain ⟨o', ps', z1, z2, z3, z4⟩ := same h' kk e
    refine h _ h' s.gens s.drawn tk' o' ps' ?_ z1 z2 z3 z4 hG
    rcases hc with ⟨rfl, e⟩ | ⟨rfl, e⟩ <;> rw [e] <;> exact ⟨_, rfl⟩
  case deed =>
    refine' fun A' env L1 s1 Q1 E1 hA1 hd1 hu1 hh1 hfs1 hg1 ho1 hbf1 hf1 hL1 hk1 hret hrais => ?_
    have hb1 : KeepAll g s1.heap := fun b o e => hk1 b o (F.keep b o e)
    have R1 := (R.keep hk1).push R hk1 hf1 hL1
    have C1 := C.keep hk1
    have hG1 : AllBare s1.gens := by rw [hg1]; exact hG
    refine enter_lamAtG (LA.keep hk1) ((T.keeps hb1).nolimit) (by omega) fun L' h' qual scope clos c' hL hks hfv hgl F' => ?_
    obtain ⟨dx, dp, t1, t2, o, F1, N1, X1, T1, hB, lo, n1, n2, n3, e1, e2, e3, hbg, sp⟩ := R1.open F' X T hb1
    clear F'
    have cmR := cell_off (hk1 _ _ qmR) dR e1 hB e2 e3
    have cmS := cell_off (hk1 _ _ qmS) dS e1 hB e2 e3
    have cmF := cell_off (hk1 _ _ qmF) dF e1 hB e2 e3
    clear R C hst same
    have gV := gD.vals
    have gL := gD.len100
    (try dsimp only)
    (try k_fold)
    k_steps
    · exact hret _ _ _ _ _ (by k_asm) ⟨by rw [putOut_yes (by k_asm) (by k_asm)]; exact rfl, (refs_turnC (by k_asm) (by k_asm) (by k_mem) (by k_mem) (by k_asm) (by k_asm)), ⟨_, (News.get (by k_asm) (by k_mem)), by rw [putOut_yes (by k_asm) (by k_asm)]; assumption⟩, ColAt.at (by k_asm) (News.get (by k_asm) (by k_mem)) (by k_asm)⟩
    · exact leave_on hA1 rfl (hL ▸ fresh_size _) (by ktr_rel) (by k_asm) fun _ R => hrais _ _ _ _ (.inl ⟨rfl, putOut_name (by k_asm) (by k_asm)⟩) R
    · exact leave_on hA1 rfl (hL ▸ fresh_size _) (by ktr_rel) (by k_asm) fun _ R => hrais _ _ _ _ (.inr ⟨rfl, putOut_bad (by k_asm)⟩) R
end
end
example : ∀ w A s Q E, TZ w A s Q E → TZ w A s Q E := by intro w A s Q E h; w_top off; first | (walk1; fail) | exact h
section
theorem none_back {h h' : Heap} {a : Addr} (k : KeepAll h h') (n : h'.get? a = none) : h.get? a = none := by
  cases q : h.get? a with
  | none => rfl
  | some o => rw [k _ _ q] at n; cases n
noncomputable abbrev pairObj (l : Addr) (v : Value) : Obj := { cls := .type "tuple", data := .seq #[.ref l, v] }
def gY6.siteTag : Unit := ()
open gY6
section
variable {p9 : Program} {lo9 : List Str} {w : World} {A : Around} {s : Shared} {base : Heap} {mg mb : Str → Option Value} {mean : ExcName → Option Value} {Q E : Value → Shared → Prop}
example : True := by
  k_with "gY6 eval Call Attribute" => (refine MethodCall_9 (by k_asm) rfl ?_)
  k_with "gY6 eval Name" => (k_here; (refine' name_F9 ?nF ?nk ?nf ?nm ?no ?nd ?_ ?nb ?nn; (case nF => with_reducible assumption); (case nk => with_reducible assumption); (case nf => with_reducible assumption); (case nm => k_mem); (case no => with_reducible assumption); (case nd => with_reducible assumption); (case nb => decide); (case nn => decide)))
  trivial
set_option maxHeartbeats 4000000 in
theorem done_follow {g : Heap} {L r dg dx dp f9 : Addr} {t1 t2 : Tok} {m : Str → Option Value} {news : List (Addr × Obj)} {og : Obj} {D : DD} {env9 : Env} {p1 p2 p3 p6 : Pos} {cR cS : Addr} {oR oS : Obj} {k : Bts} {t : Tok} (X : (hd.heap_1 w.params).In g) (T : Top p9 lo9 mean mg mb g) (F : Fr g L s.heap m) (N : News g L s.heap news) (hA : A.frames = some [env9]) (hk9 : env9.scope.kind = .function) (hf9 : env9.frame = some L) (hroom : A.depth + 40 < recursionLimit) (hun : A.units + 400 < cLine) (hhd : A.handled = none)
    (m1 : (dg, og) ∈ news) (m2 : (r, instObj 281 dx) ∈ news) (m3 : (dx, refsDict w t1 t2 dg dp) ∈ news) (hB : BObj w og D) (lo : (dg == sysModules) = false) (gD : Good D) (mR : (cR, oR) ∈ news) (dR : oR.data = .cell (some (Value.ref r))) (mS : (cS, oS) ∈ news) (dS : oS.data = .cell (some (Value.bytes k.toArray t))) (hG : AllBare s.gens) (LA : LamAt s.heap f9 (.Call (.Attribute (.Name (Str.ofString "refs") p1) (Str.ofString "follow") p2) [.Name (Str.ofString "spot") p3] [] p6) [(Str.ofString "refs", cR), (Str.ofString "spot", cS)]) (hp9 : (p2.endLine == p6.line) = true) (hk : k.length ≤ 64)
    (h : ∀ T l vs cnt ps res rv h' g' d' tk', followD D 6 k = some (ps, res) → ResIs res rv → BytesAre vs ps → Fr g L h' m → News g L h' ((T, pairObj l rv) :: (l, W.listOf vs.toArray cnt) :: news) → AllBare g' → Q (.ref T) { s with heap := h', gens := g', drawn := d', toks := tk' })
    (hl : followD D 6 k = none → ∀ t' h' tk', Fr g L h' m → News g L h' news → Q (.str (Str.ofString "loop") t') { s with heap := h', toks := tk' }) :
    wpAny (model PG w) A (call (.ref 346) [.ref f9]) Q E s := by
  have hfs : FramesOk s.heap [env9] := frames_push (l := []) F trivial hk9 hf9
  have hbf : ∀ b ∈ frs [env9], g.get? b = none := base_frames F hf9 base_self (fun _ h => nomatch h)
  have R : RefsAt w g [env9] s.heap r dg D := refs_at3 no_frs F N hf9 base_self m1 m2 m3 hB lo
  have qmR : s.heap.get? cR = some oR := (N _ mR).1
  have qmS : s.heap.get? cS = some oS := (N _ mS).1
  refine spec_done (w := w) (base := g) (Ret := fun fs v h h' => ∃ T l vs cnt ps res rv, v = .ref T ∧ followD D 6 k = some (ps, res) ∧ ResIs res rv ∧ BytesAre vs ps ∧ KeepAll h h' ∧ h'.get? T = some (pairObj l rv) ∧ h'.get? l = some (W.listOf vs.toArray cnt) ∧ h.get? T = none ∧ h.get? l = none)
    (Rais := fun c => c = .ref 84 ∧ followD D 6 k = none) X T (keep_base F base_self) (by omega) (by omega) hhd hA hfs hbf ?mono ?hr LA.fn ?deed ?ok ?bad
  case mono =>
    rintro env L1 v1 h0 h1 h2 hf hL kk ⟨T, l, vs, cnt, ps, res, rv, e1, e2, e3, e4, e5, e6, e7, e8, e9⟩
    exact ⟨T, l, vs, cnt, ps, res, rv, e1, e2, e3, e4, fun b o e => e5 b o (kk b o e), e6, e7, none_back kk e8, none_back kk e9⟩
  case hr =>
    rintro c ⟨rfl, -⟩; simp [okCls]
  case ok =>
    rintro v1 h' g' d' tk' ag ⟨T, l, vs, cnt, ps, res, rv, rfl, e2, e3, e4, e5, e6, e7, e8, e9⟩
    have N1 := news_more F (news_more F (news_keepAll N e5) e7 e9) e6 e8
    exact h T l vs cnt ps res rv h' g' d' tk' e2 e3 e4 (fr_keepAll F e5) N1 ag
  case bad =>
    rintro c h' tk' t' ⟨rfl, e⟩ kk
    exact hl e t' h' tk' (fr_keepF F kk hf9) (news_keepF N kk hf9)
  case deed =>
    refine' fun A' env L1 s1 Q1 E1 hA1 hd1 hu1 hh1 hfs1 hg1 ho1 hbf1 hf1 hL1 hk1 hret hrais => ?_
    have hb1 : KeepAll g s1.heap := fun b o e => hk1 b o (F.keep b o e)
    have R1 := (R.keep hk1).push R hk1 hf1 hL1
    have hG1 : AllBare s1.gens := by rw [hg1]; exact hG
    refine enter_lamAt (LA.keep hk1) ((T.keeps hb1).nolimit) (by omega) fun L' h' qual scope clos c' hL hks hfv F' => ?_
    obtain ⟨dx, dp, t1, t2, o, F1, N1, X1, T1, hB, lo, n1, n2, n3, e1, e2, e3, hbg, sp⟩ := R1.open F' X T hb1
    clear F'
    have cmR := cell_off (hk1 _ _ qmR) dR e1 hB e2 e3
    have cmS := cell_off (hk1 _ _ qmS) dS e1 hB e2 e3
    clear R
    have gV := gD.vals
    have gL := gD.len100
    (try dsimp only)
    (try k_fold)
    k_steps
    rename Fr _ _ _ _ => F9
    rename News _ _ _ _ => N9
    refine spec_follow X1 T1 (keep_base F9 (fun _ _ e => e)) (by k_room) (by k_units) (by k_asm) (refs_at3 sp F9 N9 rfl (fun _ _ e => e) (by k_mem) (by k_mem) (by k_mem) hB lo) gV hk (Around.frames_deeper hA1) (frames_push F9 (FramesOk.keep hfs1 (by ktr_rel)) hks rfl) (fun T l v vs ps res cnt h6 tk6 hf hr hb kk eT eL nT nL => ?_) (fun hf h6 tk6 e R => ?_)
    · have kq : KeepAll s1.heap _ := (by ktr_rel)
      exact hret _ _ _ _ _ hG1 ⟨T, l, vs, cnt, ps, res, v, rfl, hf, hr, hb, fun b o e => kk b o (kq b o e), eT, eL, none_back kq nT, none_back kq nL⟩
    · have kq : KeepAll s1.heap _ := (by ktr_rel)
      exact leave_on hA1 rfl (hL ▸ fresh_size _) kq R fun _ R2 => hrais _ _ _ _ ⟨rfl, hf⟩ R2
end
end
example : ∀ w A s Q E, TZ w A s Q E → TZ w A s Q E := by intro w A s Q E h; w_top off; first | (walk1; fail) | exact h
section
def gY7.siteTag : Unit := ()
open gY7
section
variable {p9 : Program} {lo9 : List Str} {w : World} {A : Around} {s : Shared} {base : Heap} {mg mb : Str → Option Value} {mean : ExcName → Option Value} {Q E : Value → Shared → Prop}
example : True := by
  k_with "gY7 eval Call Attribute" => (refine MethodCall_9 (by k_asm) rfl ?_)
  k_with "gY7 eval Name" => (k_here; (refine' name_F9 ?nF ?nk ?nf ?nm ?no ?nd ?_ ?nb ?nn; (case nF => with_reducible assumption); (case nk => with_reducible assumption); (case nf => with_reducible assumption); (case nm => k_mem); (case no => with_reducible assumption); (case nd => with_reducible assumption); (case nb => decide); (case nn => decide)))
  trivial
set_option maxHeartbeats 4000000 in
theorem done_get {g : Heap} {L r dg dx dp f9 : Addr} {t1 t2 : Tok} {m : Str → Option Value} {news : List (Addr × Obj)} {og : Obj} {D : DD} {env9 : Env} {p1 p2 p3 p6 : Pos} {cR cS : Addr} {oR oS : Obj} {k : Bts} {t : Tok} (X : (hd.heap_1 w.params).In g) (T : Top p9 lo9 mean mg mb g) (F : Fr g L s.heap m) (N : News g L s.heap news) (hA : A.frames = some [env9]) (hk9 : env9.scope.kind = .function) (hf9 : env9.frame = some L) (hroom : A.depth + 40 < recursionLimit) (hun : A.units + 400 < cLine) (hhd : A.handled = none)
    (m1 : (dg, og) ∈ news) (m2 : (r, instObj 281 dx) ∈ news) (m3 : (dx, refsDict w t1 t2 dg dp) ∈ news) (hB : BObj w og D) (lo : (dg == sysModules) = false) (gD : Good D) (mR : (cR, oR) ∈ news) (dR : oR.data = .cell (some (Value.ref r))) (mS : (cS, oS) ∈ news) (dS : oS.data = .cell (some (Value.bytes k.toArray t))) (hG : AllBare s.gens) (LA : LamAt s.heap f9 (.Subscript (.Name (Str.ofString "refs") p1) (.Name (Str.ofString "spot") p3) p6) [(Str.ofString "refs", cR), (Str.ofString "spot", cS)])  (hk : k.length ≤ 64)
    (h : ∀ ps b t' h' g' d' tk', followD D 6 k = some (ps, some b) → Fr g L h' m → News g L h' news → AllBare g' → Q (.bytes b.toArray t') { s with heap := h', gens := g', drawn := d', toks := tk' })
    (hn : ∀ ps, followD D 6 k = some (ps, none) → ∀ t' h' tk', Fr g L h' m → News g L h' news → Q (.str (Str.ofString "none") t') { s with heap := h', toks := tk' })
    (hl : followD D 6 k = none → ∀ t' h' tk', Fr g L h' m → News g L h' news → Q (.str (Str.ofString "loop") t') { s with heap := h', toks := tk' }) :
    wpAny (model PG w) A (call (.ref 346) [.ref f9]) Q E s := by
  have hfs : FramesOk s.heap [env9] := frames_push (l := []) F trivial hk9 hf9
  have hbf : ∀ b ∈ frs [env9], g.get? b = none := base_frames F hf9 base_self (fun _ h => nomatch h)
  have R : RefsAt w g [env9] s.heap r dg D := refs_at3 no_frs F N hf9 base_self m1 m2 m3 hB lo
  have qmR : s.heap.get? cR = some oR := (N _ mR).1
  have qmS : s.heap.get? cS = some oS := (N _ mS).1
  refine spec_done (w := w) (base := g) (Ret := fun fs v h h' => ∃ ps b t', v = .bytes (List.toArray b) t' ∧ followD D 6 k = some (ps, some b) ∧ KeepAll h h')
    (Rais := fun c => (c = .ref 84 ∧ followD D 6 k = none) ∨ (c = .type "KeyError" ∧ ∃ ps, followD D 6 k = some (ps, none))) X T (keep_base F base_self) (by omega) (by omega) hhd hA hfs hbf ?mono ?hr LA.fn ?deed ?ok ?bad
  case mono =>
    rintro env L1 v1 h0 h1 h2 hf hL kk ⟨ps, b, t', e1, e2, e5⟩
    exact ⟨ps, b, t', e1, e2, fun b o e => e5 b o (kk b o e)⟩
  case hr =>
    rintro c (⟨rfl, -⟩ | ⟨rfl, -⟩) <;> simp [okCls]
  case ok =>
    rintro v1 h' g' d' tk' ag ⟨ps, b, t', rfl, e2, e5⟩
    exact h ps b t' h' g' d' tk' e2 (fr_keepAll F e5) (news_keepAll N e5) ag
  case bad =>
    rintro c h' tk' t' (⟨rfl, e⟩ | ⟨rfl, ps, e⟩) kk
    · exact hl e t' h' tk' (fr_keepF F kk hf9) (news_keepF N kk hf9)
    · exact hn ps e t' h' tk' (fr_keepF F kk hf9) (news_keepF N kk hf9)
  case deed =>
    refine' fun A' env L1 s1 Q1 E1 hA1 hd1 hu1 hh1 hfs1 hg1 ho1 hbf1 hf1 hL1 hk1 hret hrais => ?_
    have hb1 : KeepAll g s1.heap := fun b o e => hk1 b o (F.keep b o e)
    have R1 := (R.keep hk1).push R hk1 hf1 hL1
    have hG1 : AllBare s1.gens := by rw [hg1]; exact hG
    refine enter_lamAt (LA.keep hk1) ((T.keeps hb1).nolimit) (by omega) fun L' h' qual scope clos c' hL hks hfv F' => ?_
    obtain ⟨dx, dp, t1, t2, o, F1, N1, X1, T1, hB, lo, n1, n2, n3, e1, e2, e3, hbg, sp⟩ := R1.open F' X T hb1
    clear F'
    have cmR := cell_off (hk1 _ _ qmR) dR e1 hB e2 e3
    have cmS := cell_off (hk1 _ _ qmS) dS e1 hB e2 e3
    clear R
    have gV := gD.vals
    have gL := gD.len100
    (try dsimp only)
    (try k_fold)
    k_steps
    all_goals trace_state
    rename Fr _ _ _ _ => F9
    rename News _ _ _ _ => N9
    refine spec_getitem X1 T1 (keep_base F9 (fun _ _ e => e)) (by k_room) (by k_units) (by k_asm) (refs_at3 sp F9 N9 rfl (fun _ _ e => e) (by k_mem) (by k_mem) (by k_mem) hB lo) gV hk (Around.frames_deeper hA1) (frames_push F9 (FramesOk.keep hfs1 (by ktr_rel)) hks rfl) (fun ps v t6 h6 tk6 hf kk => ?_) (fun ps hf h6 tk6 e R => ?_) (fun hf h6 tk6 e R => ?_)
    · have kq : KeepAll s1.heap _ := (by ktr_rel)
      exact hret _ _ _ _ _ hG1 ⟨ps, v, t6, rfl, hf, fun b o e => kk b o (kq b o e)⟩
    · have kq : KeepAll s1.heap _ := (by ktr_rel)
      exact leave_on hA1 rfl (hL ▸ fresh_size _) kq R fun _ R2 => hrais _ _ _ _ (.inr ⟨rfl, ps, hf⟩) R2
    · have kq : KeepAll s1.heap _ := (by ktr_rel)
      exact leave_on hA1 rfl (hL ▸ fresh_size _) kq R fun _ R2 => hrais _ _ _ _ (.inl ⟨rfl, hf⟩) R2
end
end
example : ∀ w A s Q E, TZ w A s Q E → TZ w A s Q E := by intro w A s Q E h; w_top off; first | (walk1; fail) | exact h
section
theorem lt_dg {I lD dp rr dx dh dg L : Addr} {codes : List (Addr × Obj)} (ap : Apart I lD dp rr dx dh dg L codes) : @LT.lt Nat _ dg I := by
  exact Nat.lt_of_lt_of_le (ap.low dg (by k_mem)) ap.a11
theorem lt_103 {I lD dp rr dx dh dg L : Addr} {codes : List (Addr × Obj)} (ap : Apart I lD dp rr dx dh dg L codes) : @LT.lt Nat _ 103 I := by
  exact Nat.lt_of_lt_of_le (ap.low 103 (by k_mem)) ap.a11
theorem ok_in {k : Bts} : k ∈ names9 → (names9.drop 6).contains k = false → okName k = true := by
  have : ∀ k ∈ names9, (names9.drop 6).contains k = false → okName k = true := by decide +kernel
  exact this k
theorem ok_out {k : Bts} : k ∈ names9 → (names9.drop 6).contains k = true → okName k = false := by
  have : ∀ k ∈ names9, (names9.drop 6).contains k = true → okName k = false := by decide +kernel
  exact this k
theorem lo_dg {I lD dp rr dx dh dg L : Addr} {codes : List (Addr × Obj)} (ap : Apart I lD dp rr dx dh dg L codes) : (dg == sysModules) = false := by
  obtain ⟨a1, a2, a3, -⟩ := ap
  have : dg ≠ sysModules := by unfold sysModules; show @Ne Nat _ _; omega
  simpa using this
theorem lo_dh {I lD dp rr dx dh dg L : Addr} {codes : List (Addr × Obj)} (ap : Apart I lD dp rr dx dh dg L codes) : (dh == sysModules) = false := by
  obtain ⟨a1, a2, a3, a4, -⟩ := ap
  have : dh ≠ sysModules := by unfold sysModules; show @Ne Nat _ _; omega
  simpa using this
section
variable {w : World} {A : Around} {E Q : Value → Shared → Prop} {s : Shared} {I lD dp rr dx dh dg L f : Addr} {fo oI ol op oh og og0 oR oO oG oF oS : Obj} {t1 t2 : Tok} {D : DD} {ps ps3 ps30 : Array Value} {codes : List (Addr × Obj)} {p9 : Program} {lo9 : List Str} {mg mb m : Str → Option Value} {mean : ExcName → Option Value} {g : Heap} {env9 : Env}
theorem law_set (X : (hd.heap_1 w.params).In g) (T : Top p9 lo9 mean mg mb g) (F : Fr g L s.heap m) (N : News g L s.heap ((f, fo) :: LNews I lD dp rr dx dh dg L oI ol op (instObj 281 dx) (refsDict w t1 t2 dg dp) oh og oR oO oG oF oS (tabObj ps) (tabObj ps3) codes)) (ap : Apart I lD dp rr dx dh dg L codes) (lt : @LT.lt Nat _ I f) (hA : A.frames = some [env9]) (hk9 : env9.scope.kind = .function) (hf9 : env9.frame = some L) (hroom : A.depth + 40 < recursionLimit) (hun : A.units + 400 < cLine) (hhd : A.handled = none) (hB : BObj w og D) (gD : Good D) (hG : AllBare s.gens) (dR : oR.data = .cell (some (.ref rr))) {p1 p2 p3 p4 p5 p6 : Pos} {k fr : Bts} {t tf : Tok} {ov : Value} {old : Option Bts} (dS : oS.data = .cell (some (.bytes k.toArray t))) (dO : oO.data = .cell (some ov)) (dF : oF.data = .cell (some (.bytes fr.toArray tf))) (LA : LamAtG s.heap f (.Call (.Attribute (.Name (Str.ofString "refs") p1) (Str.ofString "set_if_equals") p2) [.Name (Str.ofString "spot") p3, .Name (Str.ofString "old") p4, .Name (Str.ofString "fresh") p5] [] p6) [(Str.ofString "refs", L + 1 + 1 + 1 + 1 + 1), (Str.ofString "spot", L + 1), (Str.ofString "old", L + 1 + 1 + 1 + 1), (Str.ofString "fresh", L + 1 + 1)] []) (ht3 : TriplesOk ps3.toList) (hcol : CodeHd g 107 103) (hp9 : (p2.endLine == p6.line) = true) (hk : k ∈ names9) (hv : fr ∈ vals6) (ho : ResIs old ov) (hol : ∀ b, old = some b → b.length ≤ 64)
    (h : ∀ v1 h' g' d' tk' og' ps3', WordIs (setOut D k old fr).1 v1 → Fr g L h' m → News g L h' (LNews I lD dp rr dx dh dg L oI ol op (instObj 281 dx) (refsDict w t1 t2 dg dp) oh og' oR oO oG oF oS (tabObj ps) (tabObj ps3') codes) → BObj w og' ((setOut D k old fr).2) → TriplesOk ps3'.toList → AllBare g' → Q v1 { s with heap := h', gens := g', drawn := d', toks := tk' }) :
    wpAny (model PG w) A (call (.ref 346) [.ref f]) Q E s := by
  refine done_set (news := (f, fo) :: LNews I lD dp rr dx dh dg L oI ol op (instObj 281 dx) (refsDict w t1 t2 dg dp) oh og oR oO oG oF oS (tabObj ps) (tabObj ps3) codes) (u := fun og => (f, fo) :: LNews I lD dp rr dx dh dg L oI ol op (instObj 281 dx) (refsDict w t1 t2 dg dp) oh og oR oO oG oF oS (tabObj ps) (tabObj ps3) codes) (v := fun og o1 => (f, fo) :: LNews I lD dp rr dx dh dg L oI ol op (instObj 281 dx) (refsDict w t1 t2 dg dp) oh og oR oO oG oF oS (tabObj ps) o1 codes) X T F N hA hk9 hf9 hroom hun hhd (by k_mem) (by k_mem) (by k_mem) hB (lo_dg ap) gD (by k_mem) dR (by k_mem) dS (by k_mem) dO (by k_mem) dF hG LA.lam (by k_mem) ht3 hcol (UpdF.tail (Nat.ne_of_gt (Nat.lt_trans (lt_dg ap) lt)) (updD ap)) (fun o' => UpdF.tail (Nat.ne_of_gt (Nat.lt_trans (lt_103 ap) lt)) (upd1 ap)) hp9 hk hv ho hol fun v1 h' g' d' tk' o' ps' hw F' N' hB' tr' ag' => ?_
  exact h v1 h' g' d' tk' o' ps' hw F' (news_drop N') hB' tr' ag'
theorem law_put (X : (hd.heap_1 w.params).In g) (T : Top p9 lo9 mean mg mb g) (F : Fr g L s.heap m) (N : News g L s.heap ((f, fo) :: LNews I lD dp rr dx dh dg L oI ol op (instObj 281 dx) (refsDict w t1 t2 dg dp) oh og oR oO oG oF oS (tabObj ps) (tabObj ps3) codes)) (ap : Apart I lD dp rr dx dh dg L codes) (lt : @LT.lt Nat _ I f) (hA : A.frames = some [env9]) (hk9 : env9.scope.kind = .function) (hf9 : env9.frame = some L) (hroom : A.depth + 40 < recursionLimit) (hun : A.units + 400 < cLine) (hhd : A.handled = none) (hB : BObj w og D) (gD : Good D) (hG : AllBare s.gens) (dR : oR.data = .cell (some (.ref rr))) {p1 p2 p3 p4 p6 : Pos} {k fr : Bts} {t tf : Tok} (dS : oS.data = .cell (some (.bytes k.toArray t))) (dF : oF.data = .cell (some (.bytes fr.toArray tf))) (LA : LamAtG s.heap f (.Call (.Name (Str.ofString "_law_put") p1) [.Name (Str.ofString "refs") p2, .Name (Str.ofString "spot") p3, .Name (Str.ofString "fresh") p4] [] p6) [(Str.ofString "refs", L + 1 + 1 + 1 + 1 + 1), (Str.ofString "spot", L + 1), (Str.ofString "fresh", L + 1 + 1)] [Str.ofString "_law_put"]) (ht3 : TriplesOk ps3.toList) (hcol : CodeHd g 107 103) (hk : k ∈ names9) (hv : fr ∈ vals6)
    (h : ∀ v1 h' g' d' tk' og' ps3', PutIs (putOut D k fr).1 v1 → Fr g L h' m → News g L h' (LNews I lD dp rr dx dh dg L oI ol op (instObj 281 dx) (refsDict w t1 t2 dg dp) oh og' oR oO oG oF oS (tabObj ps) (tabObj ps3') codes) → BObj w og' ((putOut D k fr).2) → TriplesOk ps3'.toList → AllBare g' → Q v1 { s with heap := h', gens := g', drawn := d', toks := tk' }) :
    wpAny (model PG w) A (call (.ref 346) [.ref f]) Q E s := by
  refine done_put (news := (f, fo) :: LNews I lD dp rr dx dh dg L oI ol op (instObj 281 dx) (refsDict w t1 t2 dg dp) oh og oR oO oG oF oS (tabObj ps) (tabObj ps3) codes) (u := fun og => (f, fo) :: LNews I lD dp rr dx dh dg L oI ol op (instObj 281 dx) (refsDict w t1 t2 dg dp) oh og oR oO oG oF oS (tabObj ps) (tabObj ps3) codes) (v := fun og o1 => (f, fo) :: LNews I lD dp rr dx dh dg L oI ol op (instObj 281 dx) (refsDict w t1 t2 dg dp) oh og oR oO oG oF oS (tabObj ps) o1 codes) X T F N hA hk9 hf9 hroom hun hhd (by k_mem) (by k_mem) (by k_mem) hB (lo_dg ap) gD (by k_mem) dR (by k_mem) dS (by k_mem) dF hG LA (by k_mem) ht3 hcol (UpdF.tail (Nat.ne_of_gt (Nat.lt_trans (lt_dg ap) lt)) (updD ap)) (fun o' => UpdF.tail (Nat.ne_of_gt (Nat.lt_trans (lt_103 ap) lt)) (upd1 ap)) hk hv fun v1 h' g' d' tk' o' ps' hw F' N' hB' tr' ag' => ?_
  exact h v1 h' g' d' tk' o' ps' hw F' (news_drop N') hB' tr' ag'
theorem law_add (X : (hd.heap_1 w.params).In g) (T : Top p9 lo9 mean mg mb g) (F : Fr g L s.heap m) (N : News g L s.heap ((f, fo) :: LNews I lD dp rr dx dh dg L oI ol op (instObj 281 dx) (refsDict w t1 t2 dg dp) oh og oR oO oG oF oS (tabObj ps) (tabObj ps3) codes)) (ap : Apart I lD dp rr dx dh dg L codes) (lt : @LT.lt Nat _ I f) (hA : A.frames = some [env9]) (hk9 : env9.scope.kind = .function) (hf9 : env9.frame = some L) (hroom : A.depth + 40 < recursionLimit) (hun : A.units + 400 < cLine) (hhd : A.handled = none) (hB : BObj w og D) (gD : Good D) (hG : AllBare s.gens) (dR : oR.data = .cell (some (.ref rr))) {p1 p2 p3 p5 p6 : Pos} {k fr : Bts} {t tf : Tok} (dG : oG.data = .cell (some (.bytes k.toArray t))) (dF : oF.data = .cell (some (.bytes fr.toArray tf))) (LA : LamAtG s.heap f (.Call (.Attribute (.Name (Str.ofString "refs") p1) (Str.ofString "add_if_new") p2) [.Name (Str.ofString "good") p3, .Name (Str.ofString "fresh") p5] [] p6) [(Str.ofString "refs", L + 1 + 1 + 1 + 1 + 1), (Str.ofString "good", L + 1 + 1 + 1), (Str.ofString "fresh", L + 1 + 1)] []) (hp9 : (p2.endLine == p6.line) = true) (hk : k.length ≤ 64) (hv : fr ∈ vals6)
    (h : ∀ v1 h' g' d' tk' og', WordIs (addOut D k fr).1 v1 → Fr g L h' m → News g L h' (LNews I lD dp rr dx dh dg L oI ol op (instObj 281 dx) (refsDict w t1 t2 dg dp) oh og' oR oO oG oF oS (tabObj ps) (tabObj ps3) codes) → BObj w og' ((addOut D k fr).2) → AllBare g' → Q v1 { s with heap := h', gens := g', drawn := d', toks := tk' }) :
    wpAny (model PG w) A (call (.ref 346) [.ref f]) Q E s := by
  refine done_add (news := (f, fo) :: LNews I lD dp rr dx dh dg L oI ol op (instObj 281 dx) (refsDict w t1 t2 dg dp) oh og oR oO oG oF oS (tabObj ps) (tabObj ps3) codes) (u := fun og => (f, fo) :: LNews I lD dp rr dx dh dg L oI ol op (instObj 281 dx) (refsDict w t1 t2 dg dp) oh og oR oO oG oF oS (tabObj ps) (tabObj ps3) codes) X T F N hA hk9 hf9 hroom hun hhd (by k_mem) (by k_mem) (by k_mem) hB (lo_dg ap) gD (by k_mem) dR (by k_mem) dG (by k_mem) dF hG LA.lam (UpdF.tail (Nat.ne_of_gt (Nat.lt_trans (lt_dg ap) lt)) (updD ap)) hp9 hk hv fun v1 h' g' d' tk' o' hw F' N' hB' ag' => ?_
  exact h v1 h' g' d' tk' o' hw F' (news_drop N') hB' ag'
theorem law_rem (X : (hd.heap_1 w.params).In g) (T : Top p9 lo9 mean mg mb g) (F : Fr g L s.heap m) (N : News g L s.heap ((f, fo) :: LNews I lD dp rr dx dh dg L oI ol op (instObj 281 dx) (refsDict w t1 t2 dg dp) oh og oR oO oG oF oS (tabObj ps) (tabObj ps3) codes)) (ap : Apart I lD dp rr dx dh dg L codes) (lt : @LT.lt Nat _ I f) (hA : A.frames = some [env9]) (hk9 : env9.scope.kind = .function) (hf9 : env9.frame = some L) (hroom : A.depth + 40 < recursionLimit) (hun : A.units + 400 < cLine) (hhd : A.handled = none) (hB : BObj w og D) (gD : Good D) (hG : AllBare s.gens) (dR : oR.data = .cell (some (.ref rr))) {p1 p2 p3 p4 p6 : Pos} {k : Bts} {t : Tok} {ov : Value} {old : Option Bts} (dS : oS.data = .cell (some (.bytes k.toArray t))) (dO : oO.data = .cell (some ov)) (LA : LamAtG s.heap f (.Call (.Attribute (.Name (Str.ofString "refs") p1) (Str.ofString "remove_if_equals") p2) [.Name (Str.ofString "spot") p3, .Name (Str.ofString "old") p4] [] p6) [(Str.ofString "refs", L + 1 + 1 + 1 + 1 + 1), (Str.ofString "spot", L + 1), (Str.ofString "old", L + 1 + 1 + 1 + 1)] []) (hp9 : (p2.endLine == p6.line) = true) (ho : ResIs old ov) (hol : ∀ b, old = some b → b.length ≤ 64)
    (h : ∀ v1 h' g' d' tk' og', WordIs (remOut D k old).1 v1 → Fr g L h' m → News g L h' (LNews I lD dp rr dx dh dg L oI ol op (instObj 281 dx) (refsDict w t1 t2 dg dp) oh og' oR oO oG oF oS (tabObj ps) (tabObj ps3) codes) → BObj w og' ((remOut D k old).2) → AllBare g' → Q v1 { s with heap := h', gens := g', drawn := d', toks := tk' }) :
    wpAny (model PG w) A (call (.ref 346) [.ref f]) Q E s := by
  refine done_rem (news := (f, fo) :: LNews I lD dp rr dx dh dg L oI ol op (instObj 281 dx) (refsDict w t1 t2 dg dp) oh og oR oO oG oF oS (tabObj ps) (tabObj ps3) codes) (u := fun og => (f, fo) :: LNews I lD dp rr dx dh dg L oI ol op (instObj 281 dx) (refsDict w t1 t2 dg dp) oh og oR oO oG oF oS (tabObj ps) (tabObj ps3) codes) X T F N hA hk9 hf9 hroom hun hhd (by k_mem) (by k_mem) (by k_mem) hB (lo_dg ap) gD (by k_mem) dR (by k_mem) dS (by k_mem) dO hG LA.lam (UpdF.tail (Nat.ne_of_gt (Nat.lt_trans (lt_dg ap) lt)) (updD ap)) hp9 ho hol fun v1 h' g' d' tk' o' hw F' N' hB' ag' => ?_
  exact h v1 h' g' d' tk' o' hw F' (news_drop N') hB' ag'
theorem law_follow (X : (hd.heap_1 w.params).In g) (T : Top p9 lo9 mean mg mb g) (F : Fr g L s.heap m) (N : News g L s.heap ((f, fo) :: LNews I lD dp rr dx dh dg L oI ol op (instObj 281 dx) (refsDict w t1 t2 dg dp) oh og oR oO oG oF oS (tabObj ps) (tabObj ps3) codes)) (ap : Apart I lD dp rr dx dh dg L codes) (lt : @LT.lt Nat _ I f) (hA : A.frames = some [env9]) (hk9 : env9.scope.kind = .function) (hf9 : env9.frame = some L) (hroom : A.depth + 40 < recursionLimit) (hun : A.units + 400 < cLine) (hhd : A.handled = none) (hB : BObj w og D) (gD : Good D) (hG : AllBare s.gens) (dR : oR.data = .cell (some (.ref rr))) {p1 p2 p3 p6 : Pos} {k : Bts} {t : Tok} (dS : oS.data = .cell (some (.bytes k.toArray t))) (LA : LamAtG s.heap f (.Call (.Attribute (.Name (Str.ofString "refs") p1) (Str.ofString "follow") p2) [.Name (Str.ofString "spot") p3] [] p6) [(Str.ofString "refs", L + 1 + 1 + 1 + 1 + 1), (Str.ofString "spot", L + 1)] []) (hp9 : (p2.endLine == p6.line) = true) (hk : k.length ≤ 64)
    (h : ∀ T l vs cnt ps' res rv h' g' d' tk', followD D 6 k = some (ps', res) → ResIs res rv → BytesAre vs ps' → Fr g L h' m → News g L h' ((T, pairObj l rv) :: (l, W.listOf vs.toArray cnt) :: LNews I lD dp rr dx dh dg L oI ol op (instObj 281 dx) (refsDict w t1 t2 dg dp) oh og oR oO oG oF oS (tabObj ps) (tabObj ps3) codes) → AllBare g' → Q (.ref T) { s with heap := h', gens := g', drawn := d', toks := tk' })
    (hl : followD D 6 k = none → ∀ t' h' tk', Fr g L h' m → News g L h' (LNews I lD dp rr dx dh dg L oI ol op (instObj 281 dx) (refsDict w t1 t2 dg dp) oh og oR oO oG oF oS (tabObj ps) (tabObj ps3) codes) → Q (.str (Str.ofString "loop") t') { s with heap := h', toks := tk' }) :
    wpAny (model PG w) A (call (.ref 346) [.ref f]) Q E s := by
  refine done_follow (news := (f, fo) :: LNews I lD dp rr dx dh dg L oI ol op (instObj 281 dx) (refsDict w t1 t2 dg dp) oh og oR oO oG oF oS (tabObj ps) (tabObj ps3) codes) X T F N hA hk9 hf9 hroom hun hhd (by k_mem) (by k_mem) (by k_mem) hB (lo_dg ap) gD (by k_mem) dR (by k_mem) dS hG LA.lam hp9 hk (fun T l vs cnt ps' res rv h' g' d' tk' a b c F' N' ag => ?_) (fun a t' h' tk' F' N' => ?_)
  · refine h T l vs cnt ps' res rv h' g' d' tk' a b c F' (fun p hp => ?_) ag
    rcases List.mem_cons.mp hp with rfl | hp
    · exact N' _ (.head _)
    rcases List.mem_cons.mp hp with rfl | hp
    · exact N' _ (.tail _ (.head _))
    · exact N' _ (.tail _ (.tail _ (.tail _ hp)))
  · exact hl a t' h' tk' F' (news_drop N')
theorem law_get (X : (hd.heap_1 w.params).In g) (T : Top p9 lo9 mean mg mb g) (F : Fr g L s.heap m) (N : News g L s.heap ((f, fo) :: LNews I lD dp rr dx dh dg L oI ol op (instObj 281 dx) (refsDict w t1 t2 dg dp) oh og oR oO oG oF oS (tabObj ps) (tabObj ps3) codes)) (ap : Apart I lD dp rr dx dh dg L codes) (lt : @LT.lt Nat _ I f) (hA : A.frames = some [env9]) (hk9 : env9.scope.kind = .function) (hf9 : env9.frame = some L) (hroom : A.depth + 40 < recursionLimit) (hun : A.units + 400 < cLine) (hhd : A.handled = none) (hB : BObj w og D) (gD : Good D) (hG : AllBare s.gens) (dR : oR.data = .cell (some (.ref rr))) {p1 p3 p6 : Pos} {k : Bts} {t : Tok} (dS : oS.data = .cell (some (.bytes k.toArray t))) (LA : LamAtG s.heap f (.Subscript (.Name (Str.ofString "refs") p1) (.Name (Str.ofString "spot") p3) p6) [(Str.ofString "refs", L + 1 + 1 + 1 + 1 + 1), (Str.ofString "spot", L + 1)] []) (hk : k.length ≤ 64)
    (h : ∀ ps' b t' h' g' d' tk', followD D 6 k = some (ps', some b) → Fr g L h' m → News g L h' (LNews I lD dp rr dx dh dg L oI ol op (instObj 281 dx) (refsDict w t1 t2 dg dp) oh og oR oO oG oF oS (tabObj ps) (tabObj ps3) codes) → AllBare g' → Q (.bytes b.toArray t') { s with heap := h', gens := g', drawn := d', toks := tk' })
    (hn : ∀ ps', followD D 6 k = some (ps', none) → ∀ t' h' tk', Fr g L h' m → News g L h' (LNews I lD dp rr dx dh dg L oI ol op (instObj 281 dx) (refsDict w t1 t2 dg dp) oh og oR oO oG oF oS (tabObj ps) (tabObj ps3) codes) → Q (.str (Str.ofString "none") t') { s with heap := h', toks := tk' })
    (hl : followD D 6 k = none → ∀ t' h' tk', Fr g L h' m → News g L h' (LNews I lD dp rr dx dh dg L oI ol op (instObj 281 dx) (refsDict w t1 t2 dg dp) oh og oR oO oG oF oS (tabObj ps) (tabObj ps3) codes) → Q (.str (Str.ofString "loop") t') { s with heap := h', toks := tk' }) :
    wpAny (model PG w) A (call (.ref 346) [.ref f]) Q E s :=
  done_get (p2 := p1) (news := (f, fo) :: LNews I lD dp rr dx dh dg L oI ol op (instObj 281 dx) (refsDict w t1 t2 dg dp) oh og oR oO oG oF oS (tabObj ps) (tabObj ps3) codes) X T F N hA hk9 hf9 hroom hun hhd (by k_mem) (by k_mem) (by k_mem) hB (lo_dg ap) gD (by k_mem) dR (by k_mem) dS hG LA.lam hk (fun ps' b t' h' g' d' tk' a F' N' ag => h ps' b t' h' g' d' tk' a F' (news_drop N') ag) (fun ps' a t' h' tk' F' N' => hn ps' a t' h' tk' F' (news_drop N')) (fun a t' h' tk' F' N' => hl a t' h' tk' F' (news_drop N'))
theorem law_lset (X : (hd.heap_1 w.params).In g) (T : Top p9 lo9 mean mg mb g) (F : Fr g L s.heap m) (N : News g L s.heap (LNews I lD dp rr dx dh dg L oI ol op (instObj 281 dx) (refsDict w t1 t2 dg dp) oh og oR oO oG oF oS (tabObj ps) (tabObj ps3) codes)) (ap : Apart I lD dp rr dx dh dg L codes) (hroom : A.depth + 40 < recursionLimit) (hun : A.units + 400 < cLine) (hhd : A.handled = none) (hB : BObj w oh D) (gD : Good D) {k fr : Bts} {t tf : Tok} {ov : Value} {old : Option Bts} (hk : k ∈ names9) (ho : ResIs old ov)
    (h : ∀ v1 h' tk' oh', WordIs (setOut D k old fr).1 v1 → Fr g L h' m → News g L h' (LNews I lD dp rr dx dh dg L oI ol op (instObj 281 dx) (refsDict w t1 t2 dg dp) oh' og oR oO oG oF oS (tabObj ps) (tabObj ps3) codes) → BObj w oh' (setOut D k old fr).2 → Q v1 { s with heap := h', toks := tk' }) :
    wpAny (model PG w) A (call (.ref 332) [.ref dh, .bytes k.toArray t, ov, .bytes fr.toArray tf]) Q E s := by
  have hD : DictAt w g s.heap dh D := ⟨oh, (N (dh, oh) (by k_mem)).1, hB, (N (dh, oh) (by k_mem)).2.2, lo_dh ap⟩
  have same : ∀ h', KeepAll s.heap h' → Fr g L h' m ∧ News g L h' (LNews I lD dp rr dx dh dg L oI ol op (instObj 281 dx) (refsDict w t1 t2 dg dp) oh og oR oO oG oF oS (tabObj ps) (tabObj ps3) codes) := fun h' kk => ⟨fr_keepAll F kk, news_keepAll N kk⟩
  refine spec_lset X T (keep_base F base_self) (by omega) (by omega) hhd hD gD.len100 ho (fun c1 c2 c3 h' tk' o' kk e b => ?_) (fun c1 c2 h' tk' kk => ?_) (fun c1 c2 c3 t' h' tk' kk => ?_) (fun c1 t' h' tk' kk => ?_)
  · refine h _ h' tk' o' ?_ (fr_turn F N (by k_mem) kk) (news_turn N (updH ap) kk e) ?_
    · rw [setOut_yes c1 c2 (ok_in hk c3)]; exact rfl
    · rw [setOut_yes c1 c2 (ok_in hk c3)]; exact b
  · obtain ⟨F', N'⟩ := same h' kk
    refine h _ h' tk' oh ?_ F' N' ?_
    · rw [setOut_no c1 c2]; exact rfl
    · rw [setOut_no c1 c2]; exact hB
  · obtain ⟨F', N'⟩ := same h' kk
    refine h _ h' tk' oh ?_ F' N' ?_
    · rw [setOut_name c1 c2 (ok_out hk c3)]; exact ⟨_, rfl⟩
    · rw [setOut_name c1 c2 (ok_out hk c3)]; exact hB
  · obtain ⟨F', N'⟩ := same h' kk
    refine h _ h' tk' oh ?_ F' N' ?_
    · rw [setOut_bad c1]; exact ⟨_, rfl⟩
    · rw [setOut_bad c1]; exact hB
theorem law_lfollow (X : (hd.heap_1 w.params).In g) (T : Top p9 lo9 mean mg mb g) (F : Fr g L s.heap m) (N : News g L s.heap (LNews I lD dp rr dx dh dg L oI ol op (instObj 281 dx) (refsDict w t1 t2 dg dp) oh og oR oO oG oF oS (tabObj ps) (tabObj ps3) codes)) (ap : Apart I lD dp rr dx dh dg L codes) (hroom : A.depth + 40 < recursionLimit) (hun : A.units + 400 < cLine) (hhd : A.handled = none) (hB : BObj w oh D) (gD : Good D) {k : Bts} {t : Tok} (hk : k.length ≤ 64)
    (h : ∀ T l vs cnt ps' res rv h' tk', followD D 6 k = some (ps', res) → ResIs res rv → BytesAre vs ps' → Fr g L h' m → News g L h' ((T, pairObj l rv) :: (l, W.listOf vs.toArray cnt) :: LNews I lD dp rr dx dh dg L oI ol op (instObj 281 dx) (refsDict w t1 t2 dg dp) oh og oR oO oG oF oS (tabObj ps) (tabObj ps3) codes) → Q (.ref T) { s with heap := h', toks := tk' })
    (hl : followD D 6 k = none → ∀ h' tk', Fr g L h' m → News g L h' (LNews I lD dp rr dx dh dg L oI ol op (instObj 281 dx) (refsDict w t1 t2 dg dp) oh og oR oO oG oF oS (tabObj ps) (tabObj ps3) codes) → Q .none { s with heap := h', toks := tk' }) :
    wpAny (model PG w) A (call (.ref 325) [.ref dh, .bytes k.toArray t]) Q E s := by
  have hD : DictAt w g s.heap dh D := ⟨oh, (N (dh, oh) (by k_mem)).1, hB, (N (dh, oh) (by k_mem)).2.2, lo_dh ap⟩
  refine spec_lfollow X T (keep_base F base_self) (by omega) (by omega) hhd hD gD.vals hk (fun T l b tb vs ps' cnt h' tk' hf hb kk eT eL nT nL => ?_) (fun T l vs ps' cnt h' tk' hf hb kk eT eL nT nL => ?_) (fun hf h' tk' kk => ?_)
  · exact h T l vs cnt ps' (some b) _ h' tk' hf ⟨_, rfl⟩ hb (fr_keepAll F kk) (news_more F (news_more F (news_keepAll N kk) eL nL) eT nT)
  · exact h T l vs cnt ps' none _ h' tk' hf rfl hb (fr_keepAll F kk) (news_more F (news_more F (news_keepAll N kk) eL nL) eT nT)
  · exact hl hf h' tk' (fr_keepAll F kk) (news_keepAll N kk)
end
end
example : ∀ w A s Q E, TZ w A s Q E → TZ w A s Q E := by intro w A s Q E h; w_top off; first | (walk1; fail) | exact h
section
theorem names6_len : ∀ k ∈ names6, k.length ≤ 64 := by decide +kernel
theorem olds_len : ∀ old ∈ olds4, ∀ b, old = some b → b.length ≤ 64 := by
  have : ∀ old ∈ olds4, (old.getD []).length ≤ 64 := by decide +kernel
  intro old h b e
  have := this old h
  rw [e] at this; exact this
def gT4.siteTag : Unit := ()
open gT4
open LG
example : True := by
  k_with "gT4 k_updF" => (exact upd4 (by k_asm))
  trivial
section
set_option maxHeartbeats 2000000 in
theorem blk0 : ∃ scope b, armOf 3 7 0 = some (scope, b) ∧ ∀ {p9 : Program} {lo9 : List Str} {w : World} {A : Around} {g h : Heap} {L fa I lS lD dp rr dx dh dg : Addr} {oI ol op : Obj} {t1 t2 : Tok} {D : DD} {k gd am fr : Bts} {old : Option Bts} {q kd : Int} {mg mb : Str → Option Value} {mean : ExcName → Option Value} {Q : Flow → Shared → Prop} {E : Value → Shared → Prop} {gs : Array GenState} {dr : Drawn} {tk : Nat} {os : OsState}, (hd.heap_1 w.params).In g → Top p9 lo9 mean mg mb g → CodeHd g 350 348 → CodeHd g 107 103 → A.frames = some [envOfC (Str.ofString "law") scope L fa (.ref 350)] → A.depth + 60 < recursionLimit → A.units + 600 < cLine → A.handled = none → k ∈ names9 → gd ∈ names6 → am ∈ names6 → fr ∈ vals6 → old ∈ olds4 → Good D → LawSt w g I lS lD dp rr dx dh dg L oI ol op t1 t2 D k gd am fr old q kd h gs →
    (∀ D' h' gs' dr' tk', Good D' → LawSt w g I lS lD dp rr dx dh dg L oI ol op t1 t2 D' k gd am fr old q kd h' gs' → Q .next ⟨h', gs', dr', tk', os⟩) → 
    wpAny (model PG w) A (execs b (envOfC (Str.ofString "law") scope L fa (.ref 350))) Q E ⟨h, gs, dr, tk, os⟩ := by
  refine ⟨_, _, by rfl, ?_⟩
  intro p9 lo9 w A g h L fa I lS lD dp rr dx dh dg oI ol op t1 t2 D k gd am fr old q kd mg mb mean Q E gs dr tk os X T hc1 hc2 hA hroom hun hhd hk hgd ham hfr hold gD hS hQ
  obtain ⟨oh, og, oR, oO, oG, oF, oS, ps, ps3, codes, m, tS, tF, tG, tA, tq, tk9, vO, F, N, ap, ag, dS, dF, dG, dO, hro, dR, hB, hBh, hco, ht3⟩ := hS
  have hk64 : k.length ≤ 64 := names9_len k hk
  have hgd64 : gd.length ≤ 64 := names6_len gd hgd
  have ham64 : am.length ≤ 64 := names6_len am ham
  have hcc := And.intro hc1 hc2
  clear hc1 hc2
  have hol : ∀ b, old = some b → b.length ≤ 64 := olds_len old hold
  have hrefl : KeepAll g g := fun _ _ e => e
  k_steps
  show wpAny _ _ (eval (.Lambda _ _ _ _) _) _ _ _
  rename Fr _ _ _ _ => F1
  rename News _ _ _ _ => N1
  refine' law_lam (fv := [(Str.ofString "refs", L + 1 + 1 + 1 + 1 + 1), (Str.ofString "spot", L + 1), (Str.ofString "old", L + 1 + 1 + 1 + 1), (Str.ofString "fresh", L + 1 + 1)]) (gl := []) F1 N1 ap T hcc.1 hco ?_ ?hcl ?hdef ?hb ?s1 ?s2 ?s3 ?s4 ?s5 ?s6
  case hcl => exact rfl
  case hdef => exact rfl
  case hb => (intro _ _ _ _ _ _; exact rfl)
  case s1 => exact rfl
  case s2 => exact rfl
  case s3 => exact rfl
  case s4 => decide
  case s5 => (intro p9 hp9; (repeat (rcases List.mem_cons.mp hp9 with rfl | hp9; exact ⟨rfl, rfl⟩)); cases hp9)
  case s6 => (intro x9 hx9; (repeat (rcases List.mem_cons.mp hx9 with rfl | hx9; exact rfl)); cases hx9)
  intro f fo h2 tk2 ps2 codes2 F2 N2 ap2 hco2 LA2 lt2
  clear F1 N1 ap hco
  k_steps
  show wpAny _ _ (call (Value.ref 346) [Value.ref _]) _ _ _
  refine law_set X T F2 N2 ap2 lt2 hA rfl rfl (by omega) (by omega) hhd hB gD ag dR dS dO dF LA2 ht3 hcc.2 rfl hk hfr hro hol fun v1 h6 g6 d6 tk6 og6 ps36 hw1 F6 N6 hB6 tr6 ag6 => ?_
  clear F2 N2 LA2 lt2
  k_steps
  show wpAny _ _ (call (Value.ref 332) _) _ _ _
  rename Fr _ _ _ _ => F7
  rename News _ _ _ _ => N7
  refine law_lset X T F7 N7 ap2 (by omega) (by omega) hhd hBh gD hk hro fun v2 h8 tk8 oh8 hw2 F8 N8 hB8 => ?_
  clear F7 N7
  k_steps
  refine ne_word hw1 hw2 ?_
  k_steps
  have GD := gD.setOut (k := k) (old := old) hfr
  rename Fr _ _ _ _ => F9
  rename News _ _ _ _ => N9
  exact (hQ _ _ _ _ _ GD ⟨_, _, _, _, _, _, _, _, _, _, _, _, _, _, _, _, _, _, fr_law F9 (by with_unfolding_all rfl) (by with_unfolding_all rfl) (by with_unfolding_all rfl) (by with_unfolding_all rfl) (by with_unfolding_all rfl) (by with_unfolding_all rfl), N9, by k_asm, by k_asm, dS, dF, dG, dO, hro, dR, by k_asm, by k_asm, by k_asm, by k_asm⟩)
end
end
example : ∀ w A s Q E, TZ w A s Q E → TZ w A s Q E := by intro w A s Q E h; w_top off; first | (walk1; fail) | exact h
section
def gT5.siteTag : Unit := ()
open gT5
open LG
example : True := by
  k_with "gT5 call ref" => (k_here; (try dsimp only [List.nil_append, List.cons_append, List.append_nil]); (with_reducible show wpAny _ _ (call (Value.ref 297) _) _ _ _); k_dflt (refine' spec_values ?sX ?sT ?sb ?sr ?su ?sh ?_; (case sb => exact keep_base (by k_asm) (by k_asm)); (case sX => k_asm); (case sT => k_asm); (case sr => k_room); (case su => k_units); (case sh => k_asm)); (all_goals first | ((with_reducible intro l' vs' c' h' tk' hb' kk' eL' nL'); (k_dflt (have N' := news_more (by k_asm) (news_keepAll (by k_asm) kk') eL' nL')); (k_dflt (have F' := fr_keepAll (by k_asm) kk')); clear nL' eL' kk'; (try k_sweep))))
  k_with "gT5 call ref" => (k_here; (try dsimp only [List.nil_append, List.cons_append, List.append_nil]); (with_reducible show wpAny _ _ (call (Value.ref 290) _) _ _ _); k_dflt (refine' spec_names ?sX ?sT ?sb ?sr ?su ?sh ?_; (case sb => exact keep_base (by k_asm) (by k_asm)); (case sX => k_asm); (case sT => k_asm); (case sr => k_room); (case su => k_units); (case sh => k_asm)); (all_goals first | ((with_reducible intro l' vs' c' h' tk' hb' kk' eL' nL'); (k_dflt (have N' := news_more (by k_asm) (news_keepAll (by k_asm) kk') eL' nL')); (k_dflt (have F' := fr_keepAll (by k_asm) kk')); clear nL' eL' kk'; (try k_sweep))))
  k_with "gT5 k_updF" => (exact upd4 (by k_asm))
  trivial
section
set_option maxHeartbeats 2000000 in
theorem blk1 : ∃ scope b, armOf 3 7 1 = some (scope, b) ∧ ∀ {p9 : Program} {lo9 : List Str} {w : World} {A : Around} {g h : Heap} {L fa I lS lD dp rr dx dh dg : Addr} {oI ol op : Obj} {t1 t2 : Tok} {D : DD} {k gd am fr : Bts} {old : Option Bts} {q kd : Int} {mg mb : Str → Option Value} {mean : ExcName → Option Value} {Q : Flow → Shared → Prop} {E : Value → Shared → Prop} {gs : Array GenState} {dr : Drawn} {tk : Nat} {os : OsState}, (hd.heap_1 w.params).In g → Top p9 lo9 mean mg mb g → CodeHd g 350 348 → CodeHd g 107 103 → A.frames = some [envOfC (Str.ofString "law") scope L fa (.ref 350)] → A.depth + 60 < recursionLimit → A.units + 600 < cLine → A.handled = none → k ∈ names9 → gd ∈ names6 → am ∈ names6 → fr ∈ vals6 → old ∈ olds4 → Good D → LawSt w g I lS lD dp rr dx dh dg L oI ol op t1 t2 D k gd am fr old q kd h gs →
    (∀ D' h' gs' dr' tk', Good D' → LawSt w g I lS lD dp rr dx dh dg L oI ol op t1 t2 D' k gd am fr old q kd h' gs' → Q .next ⟨h', gs', dr', tk', os⟩) → 
    wpAny (model PG w) A (execs b (envOfC (Str.ofString "law") scope L fa (.ref 350))) Q E ⟨h, gs, dr, tk, os⟩ := by
  refine ⟨_, _, by rfl, ?_⟩
  intro p9 lo9 w A g h L fa I lS lD dp rr dx dh dg oI ol op t1 t2 D k gd am fr old q kd mg mb mean Q E gs dr tk os X T hc1 hc2 hA hroom hun hhd hk hgd ham hfr hold gD hS hQ
  obtain ⟨oh, og, oR, oO, oG, oF, oS, ps, ps3, codes, m, tS, tF, tG, tA, tq, tk9, vO, F, N, ap, ag, dS, dF, dG, dO, hro, dR, hB, hBh, hco, ht3⟩ := hS
  have hk64 : k.length ≤ 64 := names9_len k hk
  have hgd64 : gd.length ≤ 64 := names6_len gd hgd
  have ham64 : am.length ≤ 64 := names6_len am ham
  have hcc := And.intro hc1 hc2
  clear hc1 hc2
  have hol : ∀ b, old = some b → b.length ≤ 64 := olds_len old hold
  have hrefl : KeepAll g g := fun _ _ e => e
  k_steps
  · rename (fr == _) = true => c1
    have hfb : fr = badV := beq_iff_eq.mp c1
    show wpAny _ _ (eval (.Lambda _ _ _ _) _) _ _ _
    rename Fr _ _ _ _ => F1
    rename News _ _ _ _ => N1
    refine law_lam (fv := [(Str.ofString "refs", L + 1 + 1 + 1 + 1 + 1), (Str.ofString "good", L + 1 + 1 + 1), (Str.ofString "fresh", L + 1 + 1)]) (gl := []) F1 N1 ap T hcc.1 hco ?_ rfl rfl (fun _ _ _ _ _ _ => rfl) rfl rfl rfl (by decide) (by intro p9 hp9; (repeat (rcases List.mem_cons.mp hp9 with rfl | hp9; exact ⟨rfl, rfl⟩)); cases hp9) (by intro x9 hx9; (repeat (rcases List.mem_cons.mp hx9 with rfl | hx9; exact rfl)); cases hx9)
    intro f fo h2 tk2 ps2 codes2 F2 N2 ap2 hco2 LA2 lt2
    clear F1 N1 ap hco
    k_steps
    show wpAny _ _ (call (Value.ref 346) [Value.ref _]) _ _ _
    refine law_add X T F2 N2 ap2 lt2 hA rfl rfl (by omega) (by omega) hhd hB gD ag dR dG dF LA2 rfl hgd64 hfr fun v1 h6 g6 d6 tk6 og6 hw1 F6 N6 hB6 ag6 => ?_
    rw [addOut_bad hfb] at hw1 hB6
    clear F2 N2 LA2 hB
    k_steps
    refine ne_word hw1 ⟨_, rfl⟩ ?_
    k_steps
    have GD := gD
    rename Fr _ _ _ _ => F9
    rename News _ _ _ _ => N9
    exact (hQ _ _ _ _ _ GD ⟨_, _, _, _, _, _, _, _, _, _, _, _, _, _, _, _, _, _, fr_law F9 (by with_unfolding_all rfl) (by with_unfolding_all rfl) (by with_unfolding_all rfl) (by with_unfolding_all rfl) (by with_unfolding_all rfl) (by with_unfolding_all rfl), N9, by k_asm, by k_asm, dS, dF, dG, dO, hro, dR, by k_asm, by k_asm, by k_asm, by k_asm⟩)
  · rename (fr == _) = false => c1
    have hfb : fr ≠ badV := fun e => by rw [e] at c1; revert c1; decide
    rename Fr _ _ _ _ => F0
    rename News _ _ _ _ => N0
    refine bnotin N0 (by k_mem) hBh (lo_dh ap) ?_
    cases hg : getB D gd with
    | none =>
      dsimp only [Option.isSome_none, Bool.not_false]
      k_steps
      show wpAny _ _ (eval (.Lambda _ _ _ _) _) _ _ _
      rename Fr _ _ _ _ => F1
      rename News _ _ _ _ => N1
      refine law_lam (fv := [(Str.ofString "refs", L + 1 + 1 + 1 + 1 + 1), (Str.ofString "good", L + 1 + 1 + 1), (Str.ofString "fresh", L + 1 + 1)]) (gl := []) F1 N1 ap T hcc.1 hco ?_ rfl rfl (fun _ _ _ _ _ _ => rfl) rfl rfl rfl (by decide) (by intro p9 hp9; (repeat (rcases List.mem_cons.mp hp9 with rfl | hp9; exact ⟨rfl, rfl⟩)); cases hp9) (by intro x9 hx9; (repeat (rcases List.mem_cons.mp hx9 with rfl | hx9; exact rfl)); cases hx9)
      intro f fo h2 tk2 ps2 codes2 F2 N2 ap2 hco2 LA2 lt2
      clear F1 N1 ap hco
      k_steps
      show wpAny _ _ (call (Value.ref 346) [Value.ref _]) _ _ _
      refine law_add X T F2 N2 ap2 lt2 hA rfl rfl (by omega) (by omega) hhd hB gD ag dR dG dF LA2 rfl hgd64 hfr fun v1 h6 g6 d6 tk6 og6 hw1 F6 N6 hB6 ag6 => ?_
      rw [addOut_yes hfb hg] at hw1 hB6
      clear F2 N2 LA2 hB
      k_steps
      refine ne_word hw1 rfl ?_
      k_steps
      show wpAny _ _ (setItem _ _ _) _ _ _
      rename Fr _ _ _ _ => F7
      rename News _ _ _ _ => N7
      refine bset F7 N7 (updH ap2) hBh (Nat.le_trans gD.len100 (by decide)) fun h7 oh7 F8 N8 hB8 => ?_
      clear F7 N7 hBh
      k_steps
      have GD := gD.put hgd (vals_ok fr hfr hfb)
      rename Fr _ _ _ _ => F9
      rename News _ _ _ _ => N9
      exact (hQ _ _ _ _ _ GD ⟨_, _, _, _, _, _, _, _, _, _, _, _, _, _, _, _, _, _, fr_law F9 (by with_unfolding_all rfl) (by with_unfolding_all rfl) (by with_unfolding_all rfl) (by with_unfolding_all rfl) (by with_unfolding_all rfl) (by with_unfolding_all rfl), N9, by k_asm, by k_asm, dS, dF, dG, dO, hro, dR, by k_asm, by k_asm, by k_asm, by k_asm⟩)
    | some x =>
      dsimp only [Option.isSome_some, Bool.not_true]
      k_steps
      show wpAny _ _ (eval (.Lambda _ _ _ _) _) _ _ _
      rename Fr _ _ _ _ => F1
      rename News _ _ _ _ => N1
      refine law_lam (fv := [(Str.ofString "refs", L + 1 + 1 + 1 + 1 + 1), (Str.ofString "good", L + 1 + 1 + 1), (Str.ofString "fresh", L + 1 + 1)]) (gl := []) F1 N1 ap T hcc.1 hco ?_ rfl rfl (fun _ _ _ _ _ _ => rfl) rfl rfl rfl (by decide) (by intro p9 hp9; (repeat (rcases List.mem_cons.mp hp9 with rfl | hp9; exact ⟨rfl, rfl⟩)); cases hp9) (by intro x9 hx9; (repeat (rcases List.mem_cons.mp hx9 with rfl | hx9; exact rfl)); cases hx9)
      intro f fo h2 tk2 ps2 codes2 F2 N2 ap2 hco2 LA2 lt2
      clear F1 N1 ap hco
      k_steps
      show wpAny _ _ (call (Value.ref 346) [Value.ref _]) _ _ _
      refine law_add X T F2 N2 ap2 lt2 hA rfl rfl (by omega) (by omega) hhd hB gD ag dR dG dF LA2 rfl hgd64 hfr fun v1 h6 g6 d6 tk6 og6 hw1 F6 N6 hB6 ag6 => ?_
      rw [addOut_no hfb (by rw [hg]; rfl)] at hw1 hB6
      clear F2 N2 LA2 hB
      k_steps
      refine ne_word hw1 rfl ?_
      k_steps
      have GD := gD
      rename Fr _ _ _ _ => F9
      rename News _ _ _ _ => N9
      exact (hQ _ _ _ _ _ GD ⟨_, _, _, _, _, _, _, _, _, _, _, _, _, _, _, _, _, _, fr_law F9 (by with_unfolding_all rfl) (by with_unfolding_all rfl) (by with_unfolding_all rfl) (by with_unfolding_all rfl) (by with_unfolding_all rfl) (by with_unfolding_all rfl), N9, by k_asm, by k_asm, dS, dF, dG, dO, hro, dR, by k_asm, by k_asm, by k_asm, by k_asm⟩)
end
end
example : ∀ w A s Q E, TZ w A s Q E → TZ w A s Q E := by intro w A s Q E h; w_top off; first | (walk1; fail) | exact h
section
def gT6.siteTag : Unit := ()
open gT6
open LG
example : True := by
  k_with "gT6 call ref" => (k_here; (try dsimp only [List.nil_append, List.cons_append, List.append_nil]); (with_reducible show wpAny _ _ (call (Value.ref 297) _) _ _ _); k_dflt (refine' spec_values ?sX ?sT ?sb ?sr ?su ?sh ?_; (case sb => exact keep_base (by k_asm) (by k_asm)); (case sX => k_asm); (case sT => k_asm); (case sr => k_room); (case su => k_units); (case sh => k_asm)); (all_goals first | ((with_reducible intro l' vs' c' h' tk' hb' kk' eL' nL'); (k_dflt (have N' := news_more (by k_asm) (news_keepAll (by k_asm) kk') eL' nL')); (k_dflt (have F' := fr_keepAll (by k_asm) kk')); clear nL' eL' kk'; (try k_sweep))))
  k_with "gT6 call ref" => (k_here; (try dsimp only [List.nil_append, List.cons_append, List.append_nil]); (with_reducible show wpAny _ _ (call (Value.ref 290) _) _ _ _); k_dflt (refine' spec_names ?sX ?sT ?sb ?sr ?su ?sh ?_; (case sb => exact keep_base (by k_asm) (by k_asm)); (case sX => k_asm); (case sT => k_asm); (case sr => k_room); (case su => k_units); (case sh => k_asm)); (all_goals first | ((with_reducible intro l' vs' c' h' tk' hb' kk' eL' nL'); (k_dflt (have N' := news_more (by k_asm) (news_keepAll (by k_asm) kk') eL' nL')); (k_dflt (have F' := fr_keepAll (by k_asm) kk')); clear nL' eL' kk'; (try k_sweep))))
  k_with "gT6 k_updF" => (exact upd4 (by k_asm))
  trivial
theorem remOut_word {D : DD} {k : Bts} {old : Option Bts} (h2 : ∀ b, old = some b → (getB D k).getD zeroV = b) : (remOut D k old).1 = .inl true := by
  cases hg : getB D k with
  | none => rw [remOut_nil h2 hg]
  | some x => rw [remOut_yes h2 (by rw [hg]; rfl)]
section
set_option maxHeartbeats 2000000 in
theorem blk2 : ∃ scope b, armOf 3 7 2 = some (scope, b) ∧ ∀ {p9 : Program} {lo9 : List Str} {w : World} {A : Around} {g h : Heap} {L fa I lS lD dp rr dx dh dg : Addr} {oI ol op : Obj} {t1 t2 : Tok} {D : DD} {k gd am fr : Bts} {old : Option Bts} {q kd : Int} {mg mb : Str → Option Value} {mean : ExcName → Option Value} {Q : Flow → Shared → Prop} {E : Value → Shared → Prop} {gs : Array GenState} {dr : Drawn} {tk : Nat} {os : OsState}, (hd.heap_1 w.params).In g → Top p9 lo9 mean mg mb g → CodeHd g 350 348 → CodeHd g 107 103 → A.frames = some [envOfC (Str.ofString "law") scope L fa (.ref 350)] → A.depth + 60 < recursionLimit → A.units + 600 < cLine → A.handled = none → k ∈ names9 → gd ∈ names6 → am ∈ names6 → fr ∈ vals6 → old ∈ olds4 → Good D → LawSt w g I lS lD dp rr dx dh dg L oI ol op t1 t2 D k gd am fr old q kd h gs →
    (∀ D' h' gs' dr' tk', Good D' → LawSt w g I lS lD dp rr dx dh dg L oI ol op t1 t2 D' k gd am fr old q kd h' gs' → Q .next ⟨h', gs', dr', tk', os⟩) → 
    wpAny (model PG w) A (execs b (envOfC (Str.ofString "law") scope L fa (.ref 350))) Q E ⟨h, gs, dr, tk, os⟩ := by
  refine ⟨_, _, by rfl, ?_⟩
  intro p9 lo9 w A g h L fa I lS lD dp rr dx dh dg oI ol op t1 t2 D k gd am fr old q kd mg mb mean Q E gs dr tk os X T hc1 hc2 hA hroom hun hhd hk hgd ham hfr hold gD hS hQ
  obtain ⟨oh, og, oR, oO, oG, oF, oS, ps, ps3, codes, m, tS, tF, tG, tA, tq, tk9, vO, F, N, ap, ag, dS, dF, dG, dO, hro, dR, hB, hBh, hco, ht3⟩ := hS
  have hk64 : k.length ≤ 64 := names9_len k hk
  have hgd64 : gd.length ≤ 64 := names6_len gd hgd
  have ham64 : am.length ≤ 64 := names6_len am ham
  have loH := lo_dh ap
  have loG := lo_dg ap
  have gL100 : D.length ≤ 16777216 := Nat.le_trans gD.len100 (by decide)
  have hcc := And.intro hc1 hc2
  clear hc1 hc2
  have hol : ∀ b, old = some b → b.length ≤ 64 := olds_len old hold
  have hrefl : KeepAll g g := fun _ _ e => e
  rcases old with _ | b
  · obtain rfl : vO = .none := hro
    have hro : ResIs none Value.none := rfl
    have hn2 : ∀ b, (none : Option Bts) = some b → (getB D k).getD zeroV = b := fun b e => by cases e
    k_steps
    show wpAny _ _ (eval (.Lambda _ _ _ _) _) _ _ _
    rename Fr _ _ _ _ => F1
    rename News _ _ _ _ => N1
    refine law_lam (fv := [(Str.ofString "refs", L + 1 + 1 + 1 + 1 + 1), (Str.ofString "spot", L + 1), (Str.ofString "old", L + 1 + 1 + 1 + 1)]) (gl := []) F1 N1 ap T hcc.1 hco ?_ rfl rfl (fun _ _ _ _ _ _ => rfl) rfl rfl rfl (by decide) (by intro p9 hp9; (repeat (rcases List.mem_cons.mp hp9 with rfl | hp9; exact ⟨rfl, rfl⟩)); cases hp9) (by intro x9 hx9; (repeat (rcases List.mem_cons.mp hx9 with rfl | hx9; exact rfl)); cases hx9)
    intro f fo h2 tk2 ps2 codes2 F2 N2 ap2 hco2 LA2 lt2
    clear F1 N1 ap hco
    k_steps
    show wpAny _ _ (call (Value.ref 346) [Value.ref _]) _ _ _
    refine law_rem X T F2 N2 ap2 lt2 hA rfl rfl (by omega) (by omega) hhd hB gD ag dR dS dO LA2 rfl (old := none) rfl hol fun v1 h6 g6 d6 tk6 og6 hw1 F6 N6 hB6 ag6 => ?_
    rw [remOut_word hn2] at hw1
    clear F2 N2 LA2 hB
    k_steps
    refine ne_word hw1 rfl ?_
    k_steps
    · rename (getB D k).isSome = true => c3
      rw [remOut_yes hn2 c3] at hB6
      have GD := gD.del (k := k)
      rename Fr _ _ _ _ => F9
      rename News _ _ _ _ => N9
      exact (hQ _ _ _ _ _ GD ⟨_, _, _, _, _, _, _, _, _, _, _, _, _, _, _, _, _, _, fr_law F9 (by with_unfolding_all rfl) (by with_unfolding_all rfl) (by with_unfolding_all rfl) (by with_unfolding_all rfl) (by with_unfolding_all rfl) (by with_unfolding_all rfl), N9, by k_asm, by k_asm, dS, dF, dG, dO, hro, dR, by k_asm, by k_asm, by k_asm, by k_asm⟩)
    · rename (getB D k).isSome = false => c3
      have c4 : getB D k = none := by simpa using c3
      rw [remOut_nil hn2 c4] at hB6
      have GD := gD
      rename Fr _ _ _ _ => F9
      rename News _ _ _ _ => N9
      exact (hQ _ _ _ _ _ GD ⟨_, _, _, _, _, _, _, _, _, _, _, _, _, _, _, _, _, _, fr_law F9 (by with_unfolding_all rfl) (by with_unfolding_all rfl) (by with_unfolding_all rfl) (by with_unfolding_all rfl) (by with_unfolding_all rfl) (by with_unfolding_all rfl), N9, by k_asm, by k_asm, dS, dF, dG, dO, hro, dR, by k_asm, by k_asm, by k_asm, by k_asm⟩)
  · obtain ⟨tb, rfl⟩ := hro
    have hro : ResIs (some b) (Value.bytes b.toArray tb) := ⟨tb, rfl⟩
    by_cases hq : (getB D k).getD zeroV = b
    · have e9 : ((getB D k).getD zeroV == b) = true := beq_iff_eq.mpr hq
      unfold zeroV at e9
      have hn2 : ∀ b', some b = some b' → (getB D k).getD zeroV = b' := fun b' e => by cases e; exact hq
      k_steps
      show wpAny _ _ (eval (.Lambda _ _ _ _) _) _ _ _
      rename Fr _ _ _ _ => F1
      simp only [e9] at F1
      rename News _ _ _ _ => N1
      refine law_lam (fv := [(Str.ofString "refs", L + 1 + 1 + 1 + 1 + 1), (Str.ofString "spot", L + 1), (Str.ofString "old", L + 1 + 1 + 1 + 1)]) (gl := []) F1 N1 ap T hcc.1 hco ?_ rfl rfl (fun _ _ _ _ _ _ => rfl) rfl rfl rfl (by decide) (by intro p9 hp9; (repeat (rcases List.mem_cons.mp hp9 with rfl | hp9; exact ⟨rfl, rfl⟩)); cases hp9) (by intro x9 hx9; (repeat (rcases List.mem_cons.mp hx9 with rfl | hx9; exact rfl)); cases hx9)
      intro f fo h2 tk2 ps2 codes2 F2 N2 ap2 hco2 LA2 lt2
      clear F1 N1 ap hco
      k_steps
      show wpAny _ _ (call (Value.ref 346) [Value.ref _]) _ _ _
      refine law_rem X T F2 N2 ap2 lt2 hA rfl rfl (by omega) (by omega) hhd hB gD ag dR dS dO LA2 rfl (old := some b) ⟨tb, rfl⟩ hol fun v1 h6 g6 d6 tk6 og6 hw1 F6 N6 hB6 ag6 => ?_
      rw [remOut_word hn2] at hw1
      clear F2 N2 LA2 hB
      k_steps
      refine ne_word hw1 rfl ?_
      k_steps
      · rename (getB D k).isSome = true => c3
        rw [remOut_yes hn2 c3] at hB6
        have GD := gD.del (k := k)
        rename Fr _ _ _ _ => F9
        rename News _ _ _ _ => N9
        exact (hQ _ _ _ _ _ GD ⟨_, _, _, _, _, _, _, _, _, _, _, _, _, _, _, _, _, _, fr_law F9 (by with_unfolding_all rfl) (by with_unfolding_all rfl) (by with_unfolding_all rfl) (by with_unfolding_all rfl) (by with_unfolding_all rfl) (by with_unfolding_all rfl), N9, by k_asm, by k_asm, dS, dF, dG, dO, hro, dR, by k_asm, by k_asm, by k_asm, by k_asm⟩)
      · rename (getB D k).isSome = false => c3
        have c4 : getB D k = none := by simpa using c3
        rw [remOut_nil hn2 c4] at hB6
        have GD := gD
        rename Fr _ _ _ _ => F9
        rename News _ _ _ _ => N9
        exact (hQ _ _ _ _ _ GD ⟨_, _, _, _, _, _, _, _, _, _, _, _, _, _, _, _, _, _, fr_law F9 (by with_unfolding_all rfl) (by with_unfolding_all rfl) (by with_unfolding_all rfl) (by with_unfolding_all rfl) (by with_unfolding_all rfl) (by with_unfolding_all rfl), N9, by k_asm, by k_asm, dS, dF, dG, dO, hro, dR, by k_asm, by k_asm, by k_asm, by k_asm⟩)
    · have e9 : ((getB D k).getD zeroV == b) = false := beq_eq_false_iff_ne.mpr hq
      unfold zeroV at e9
      have hno : ∃ b', some b = some b' ∧ (getB D k).getD zeroV ≠ b' := ⟨b, rfl, hq⟩
      k_steps
      show wpAny _ _ (eval (.Lambda _ _ _ _) _) _ _ _
      rename Fr _ _ _ _ => F1
      simp only [e9] at F1
      rename News _ _ _ _ => N1
      refine law_lam (fv := [(Str.ofString "refs", L + 1 + 1 + 1 + 1 + 1), (Str.ofString "spot", L + 1), (Str.ofString "old", L + 1 + 1 + 1 + 1)]) (gl := []) F1 N1 ap T hcc.1 hco ?_ rfl rfl (fun _ _ _ _ _ _ => rfl) rfl rfl rfl (by decide) (by intro p9 hp9; (repeat (rcases List.mem_cons.mp hp9 with rfl | hp9; exact ⟨rfl, rfl⟩)); cases hp9) (by intro x9 hx9; (repeat (rcases List.mem_cons.mp hx9 with rfl | hx9; exact rfl)); cases hx9)
      intro f fo h2 tk2 ps2 codes2 F2 N2 ap2 hco2 LA2 lt2
      clear F1 N1 ap hco
      k_steps
      show wpAny _ _ (call (Value.ref 346) [Value.ref _]) _ _ _
      refine law_rem X T F2 N2 ap2 lt2 hA rfl rfl (by omega) (by omega) hhd hB gD ag dR dS dO LA2 rfl (old := some b) ⟨tb, rfl⟩ hol fun v1 h6 g6 d6 tk6 og6 hw1 F6 N6 hB6 ag6 => ?_
      rw [remOut_no hno] at hw1 hB6
      clear F2 N2 LA2 hB
      k_steps
      refine ne_word hw1 rfl ?_
      k_steps
      have GD := gD
      rename Fr _ _ _ _ => F9
      rename News _ _ _ _ => N9
      exact (hQ _ _ _ _ _ GD ⟨_, _, _, _, _, _, _, _, _, _, _, _, _, _, _, _, _, _, fr_law F9 (by with_unfolding_all rfl) (by with_unfolding_all rfl) (by with_unfolding_all rfl) (by with_unfolding_all rfl) (by with_unfolding_all rfl) (by with_unfolding_all rfl), N9, by k_asm, by k_asm, dS, dF, dG, dO, hro, dR, by k_asm, by k_asm, by k_asm, by k_asm⟩)
end
end
example : ∀ w A s Q E, TZ w A s Q E → TZ w A s Q E := by intro w A s Q E h; w_top off; first | (walk1; fail) | exact h
section
def gT7.siteTag : Unit := ()
open gT7
open LG
example : True := by
  k_with "gT7 call ref" => (k_here; (try dsimp only [List.nil_append, List.cons_append, List.append_nil]); (with_reducible show wpAny _ _ (call (Value.ref 297) _) _ _ _); k_dflt (refine' spec_values ?sX ?sT ?sb ?sr ?su ?sh ?_; (case sb => exact keep_base (by k_asm) (by k_asm)); (case sX => k_asm); (case sT => k_asm); (case sr => k_room); (case su => k_units); (case sh => k_asm)); (all_goals first | ((with_reducible intro l' vs' c' h' tk' hb' kk' eL' nL'); (k_dflt (have N' := news_more (by k_asm) (news_keepAll (by k_asm) kk') eL' nL')); (k_dflt (have F' := fr_keepAll (by k_asm) kk')); clear nL' eL' kk'; (try k_sweep))))
  k_with "gT7 call ref" => (k_here; (try dsimp only [List.nil_append, List.cons_append, List.append_nil]); (with_reducible show wpAny _ _ (call (Value.ref 290) _) _ _ _); k_dflt (refine' spec_names ?sX ?sT ?sb ?sr ?su ?sh ?_; (case sb => exact keep_base (by k_asm) (by k_asm)); (case sX => k_asm); (case sT => k_asm); (case sr => k_room); (case su => k_units); (case sh => k_asm)); (all_goals first | ((with_reducible intro l' vs' c' h' tk' hb' kk' eL' nL'); (k_dflt (have N' := news_more (by k_asm) (news_keepAll (by k_asm) kk') eL' nL')); (k_dflt (have F' := fr_keepAll (by k_asm) kk')); clear nL' eL' kk'; (try k_sweep))))
  k_with "gT7 k_updF" => (exact upd4 (by k_asm))
  trivial
theorem ref_ok : ∀ a ∈ names6, rp ++ a ∈ okVals := by decide +kernel
section
set_option maxHeartbeats 2000000 in
theorem blk3 : ∃ scope b, armOf 3 7 3 = some (scope, b) ∧ ∀ {p9 : Program} {lo9 : List Str} {w : World} {A : Around} {g h : Heap} {L fa I lS lD dp rr dx dh dg : Addr} {oI ol op : Obj} {t1 t2 : Tok} {D : DD} {k gd am fr : Bts} {old : Option Bts} {q kd : Int} {mg mb : Str → Option Value} {mean : ExcName → Option Value} {Q : Flow → Shared → Prop} {E : Value → Shared → Prop} {gs : Array GenState} {dr : Drawn} {tk : Nat} {os : OsState}, (hd.heap_1 w.params).In g → Top p9 lo9 mean mg mb g → CodeHd g 350 348 → CodeHd g 107 103 → A.frames = some [envOfC (Str.ofString "law") scope L fa (.ref 350)] → A.depth + 60 < recursionLimit → A.units + 600 < cLine → A.handled = none → k ∈ names9 → gd ∈ names6 → am ∈ names6 → fr ∈ vals6 → old ∈ olds4 → Good D → LawSt w g I lS lD dp rr dx dh dg L oI ol op t1 t2 D k gd am fr old q kd h gs →
    (∀ D' h' gs' dr' tk', Good D' → LawSt w g I lS lD dp rr dx dh dg L oI ol op t1 t2 D' k gd am fr old q kd h' gs' → Q .next ⟨h', gs', dr', tk', os⟩) → 
    wpAny (model PG w) A (execs b (envOfC (Str.ofString "law") scope L fa (.ref 350))) Q E ⟨h, gs, dr, tk, os⟩ := by
  refine ⟨_, _, by rfl, ?_⟩
  intro p9 lo9 w A g h L fa I lS lD dp rr dx dh dg oI ol op t1 t2 D k gd am fr old q kd mg mb mean Q E gs dr tk os X T hc1 hc2 hA hroom hun hhd hk hgd ham hfr hold gD hS hQ
  obtain ⟨oh, og, oR, oO, oG, oF, oS, ps, ps3, codes, m, tS, tF, tG, tA, tq, tk9, vO, F, N, ap, ag, dS, dF, dG, dO, hro, dR, hB, hBh, hco, ht3⟩ := hS
  have hk64 : k.length ≤ 64 := names9_len k hk
  have hgd64 : gd.length ≤ 64 := names6_len gd hgd
  have ham64 : am.length ≤ 64 := names6_len am ham
  obtain ⟨env9, he9, hk9, hf9⟩ : ∃ env9, A.frames = some [env9] ∧ env9.scope.kind = .function ∧ env9.frame = some L := ⟨_, hA, rfl, rfl⟩
  have loH := lo_dh ap
  have loG := lo_dg ap
  have gL100 : D.length ≤ 16777216 := Nat.le_trans gD.len100 (by decide)
  have hcc := And.intro hc1 hc2
  clear hc1 hc2
  have hol : ∀ b, old = some b → b.length ≤ 64 := olds_len old hold
  have hrefl : KeepAll g g := fun _ _ e => e
  k_steps
  show wpAny _ _ (call (Value.ref 325) _) _ _ _
  rename Fr _ _ _ _ => F7
  rename News _ _ _ _ => N7
  refine law_lfollow X T F7 N7 ap (by omega) (by omega) hhd hBh gD hgd64 (fun TT l vs cnt ps' res rv h8 tk8 hf hr hb F8 N8 => ?_) (fun hf h8 tk8 F8 N8 => ?_)
  · have N8' := news_drop (news_drop N8)
    clear F7 N7 N8
    k_steps
    show wpAny _ _ (call (Value.ref 250) _) _ _ _
    rename Fr _ _ _ _ => F9
    rename News _ _ _ _ => N9
    have hfs : FramesOk _ [env9] := frames_push (l := []) F9 trivial hk9 hf9
    refine spec_symref X T (keep_base F9 base_self) (by omega) (by omega) hhd (refs_at3 no_frs F9 N9 hf9 base_self (by k_mem) (by k_mem) (by k_mem) hB loG) gD.vals gD.len100 he9 hfs hgd64 ham64 (by rw [hf]; simp) fun h10 tk10 o10 kk e10 b10 => ?_
    have F11 := fr_turn F9 N9 (d := dg) (o := og) (by k_mem) kk
    have N11 := news_turn N9 (updD ap) kk e10
    clear F9 N9 hfs kk e10 hB
    k_steps
    clear hBh
    have GD := gD.put hgd (ref_ok am ham)
    rename Fr _ _ _ _ => F9
    rename News _ _ _ _ => N9
    exact (hQ _ _ _ _ _ GD ⟨_, _, _, _, _, _, _, _, _, _, _, _, _, _, _, _, _, _, fr_law F9 (by with_unfolding_all rfl) (by with_unfolding_all rfl) (by with_unfolding_all rfl) (by with_unfolding_all rfl) (by with_unfolding_all rfl) (by with_unfolding_all rfl), N9, by k_asm, by k_asm, dS, dF, dG, dO, hro, dR, by k_asm, by k_asm, by k_asm, by k_asm⟩)
  · clear F7 N7
    k_steps
    have GD := gD
    rename Fr _ _ _ _ => F9
    rename News _ _ _ _ => N9
    exact (hQ _ _ _ _ _ GD ⟨_, _, _, _, _, _, _, _, _, _, _, _, _, _, _, _, _, _, fr_law F9 (by with_unfolding_all rfl) (by with_unfolding_all rfl) (by with_unfolding_all rfl) (by with_unfolding_all rfl) (by with_unfolding_all rfl) (by with_unfolding_all rfl), N9, by k_asm, by k_asm, dS, dF, dG, dO, hro, dR, by k_asm, by k_asm, by k_asm, by k_asm⟩)
end
end
example : ∀ w A s Q E, TZ w A s Q E → TZ w A s Q E := by intro w A s Q E h; w_top off; first | (walk1; fail) | exact h
section
def gT8.siteTag : Unit := ()
open gT8
open LG
example : True := by
  k_with "gT8 call ref" => (k_here; (try dsimp only [List.nil_append, List.cons_append, List.append_nil]); (with_reducible show wpAny _ _ (call (Value.ref 297) _) _ _ _); k_dflt (refine' spec_values ?sX ?sT ?sb ?sr ?su ?sh ?_; (case sb => exact keep_base (by k_asm) (by k_asm)); (case sX => k_asm); (case sT => k_asm); (case sr => k_room); (case su => k_units); (case sh => k_asm)); (all_goals first | ((with_reducible intro l' vs' c' h' tk' hb' kk' eL' nL'); (k_dflt (have N' := news_more (by k_asm) (news_keepAll (by k_asm) kk') eL' nL')); (k_dflt (have F' := fr_keepAll (by k_asm) kk')); clear nL' eL' kk'; (try k_sweep))))
  k_with "gT8 call ref" => (k_here; (try dsimp only [List.nil_append, List.cons_append, List.append_nil]); (with_reducible show wpAny _ _ (call (Value.ref 290) _) _ _ _); k_dflt (refine' spec_names ?sX ?sT ?sb ?sr ?su ?sh ?_; (case sb => exact keep_base (by k_asm) (by k_asm)); (case sX => k_asm); (case sT => k_asm); (case sr => k_room); (case su => k_units); (case sh => k_asm)); (all_goals first | ((with_reducible intro l' vs' c' h' tk' hb' kk' eL' nL'); (k_dflt (have N' := news_more (by k_asm) (news_keepAll (by k_asm) kk') eL' nL')); (k_dflt (have F' := fr_keepAll (by k_asm) kk')); clear nL' eL' kk'; (try k_sweep))))
  k_with "gT8 k_updF" => (exact upd4 (by k_asm))
  trivial
section
set_option maxHeartbeats 2000000 in
theorem blk4 : ∃ scope b, armOf 3 7 4 = some (scope, b) ∧ ∀ {p9 : Program} {lo9 : List Str} {w : World} {A : Around} {g h : Heap} {L fa I lS lD dp rr dx dh dg : Addr} {oI ol op : Obj} {t1 t2 : Tok} {D : DD} {k gd am fr : Bts} {old : Option Bts} {q kd : Int} {mg mb : Str → Option Value} {mean : ExcName → Option Value} {Q : Flow → Shared → Prop} {E : Value → Shared → Prop} {gs : Array GenState} {dr : Drawn} {tk : Nat} {os : OsState}, (hd.heap_1 w.params).In g → Top p9 lo9 mean mg mb g → CodeHd g 350 348 → CodeHd g 107 103 → A.frames = some [envOfC (Str.ofString "law") scope L fa (.ref 350)] → A.depth + 60 < recursionLimit → A.units + 600 < cLine → A.handled = none → k ∈ names9 → gd ∈ names6 → am ∈ names6 → fr ∈ vals6 → old ∈ olds4 → Good D → LawSt w g I lS lD dp rr dx dh dg L oI ol op t1 t2 D k gd am fr old q kd h gs →
    (∀ D' h' gs' dr' tk', Good D' → LawSt w g I lS lD dp rr dx dh dg L oI ol op t1 t2 D' k gd am fr old q kd h' gs' → Q .next ⟨h', gs', dr', tk', os⟩) → 
    wpAny (model PG w) A (execs b (envOfC (Str.ofString "law") scope L fa (.ref 350))) Q E ⟨h, gs, dr, tk, os⟩ := by
  refine ⟨_, _, by rfl, ?_⟩
  intro p9 lo9 w A g h L fa I lS lD dp rr dx dh dg oI ol op t1 t2 D k gd am fr old q kd mg mb mean Q E gs dr tk os X T hc1 hc2 hA hroom hun hhd hk hgd ham hfr hold gD hS hQ
  obtain ⟨oh, og, oR, oO, oG, oF, oS, ps, ps3, codes, m, tS, tF, tG, tA, tq, tk9, vO, F, N, ap, ag, dS, dF, dG, dO, hro, dR, hB, hBh, hco, ht3⟩ := hS
  have hk64 : k.length ≤ 64 := names9_len k hk
  have hgd64 : gd.length ≤ 64 := names6_len gd hgd
  have ham64 : am.length ≤ 64 := names6_len am ham
  obtain ⟨env9, he9, hk9, hf9⟩ : ∃ env9, A.frames = some [env9] ∧ env9.scope.kind = .function ∧ env9.frame = some L := ⟨_, hA, rfl, rfl⟩
  have loH := lo_dh ap
  have loG := lo_dg ap
  have gL100 : D.length ≤ 16777216 := Nat.le_trans gD.len100 (by decide)
  have hcc := And.intro hc1 hc2
  clear hc1 hc2
  have hol : ∀ b, old = some b → b.length ≤ 64 := olds_len old hold
  have hrefl : KeepAll g g := fun _ _ e => e
  k_steps
  show wpAny _ _ (call (Value.ref 332) _) _ _ _
  rename Fr _ _ _ _ => F7
  rename News _ _ _ _ => N7
  have hnn : ∀ b, (none : Option Bts) = some b → (getB D k).getD zeroV = b := fun b e => by cases e
  refine law_lset (old := none) X T F7 N7 ap (by omega) (by omega) hhd hBh gD hk rfl fun v2 h8 tk8 oh8 hw2 F8 N8 hB8 => ?_
  by_cases hfb : fr = badV
  · rw [setOut_bad hfb] at hw2 hB8
    obtain ⟨t9, rfl⟩ := hw2
    clear F7 N7 hBh
    k_steps
    show wpAny _ _ (eval (.Lambda _ _ _ _) _) _ _ _
    rename Fr _ _ _ _ => F1
    rename News _ _ _ _ => N1
    refine law_lam (fv := [(Str.ofString "refs", L + 1 + 1 + 1 + 1 + 1), (Str.ofString "spot", L + 1), (Str.ofString "fresh", L + 1 + 1)]) (gl := [Str.ofString "_law_put"]) F1 N1 ap T hcc.1 hco ?_ rfl rfl (fun _ _ _ _ _ _ => rfl) rfl rfl rfl (by decide) (by intro p9 hp9; (repeat (rcases List.mem_cons.mp hp9 with rfl | hp9; exact ⟨rfl, rfl⟩)); cases hp9) (by intro x9 hx9; (repeat (rcases List.mem_cons.mp hx9 with rfl | hx9; exact rfl)); cases hx9)
    intro f fo h2 tk2 ps2 codes2 F2 N2 ap2 hco2 LA2 lt2
    clear F1 N1 ap hco
    k_steps
    show wpAny _ _ (call (Value.ref 346) [Value.ref _]) _ _ _
    refine law_put X T F2 N2 ap2 lt2 hA rfl rfl (by omega) (by omega) hhd hB gD ag dR dS dF LA2 ht3 hcc.2 hk hfr fun v1 h6 g6 d6 tk6 og6 ps36 hw1 F6 N6 hB6 tr6 ag6 => ?_
    rw [putOut_bad hfb] at hw1 hB6
    clear F2 N2 LA2 hB
    k_steps
    obtain ⟨t8, rfl⟩ := hw1
    refine ne_word (r := .inr wValue) ⟨t8, rfl⟩ ⟨t9, rfl⟩ ?_
    k_steps
    have GD := gD
    rename Fr _ _ _ _ => F9
    rename News _ _ _ _ => N9
    exact (hQ _ _ _ _ _ GD ⟨_, _, _, _, _, _, _, _, _, _, _, _, _, _, _, _, _, _, fr_law F9 (by with_unfolding_all rfl) (by with_unfolding_all rfl) (by with_unfolding_all rfl) (by with_unfolding_all rfl) (by with_unfolding_all rfl) (by with_unfolding_all rfl), N9, by k_asm, by k_asm, dS, dF, dG, dO, hro, dR, by k_asm, by k_asm, by k_asm, by k_asm⟩)
  by_cases hok : okName k = true
  · rw [setOut_yes hfb hnn hok] at hw2 hB8
    obtain rfl : v2 = .bool true := hw2
    clear F7 N7 hBh
    k_steps
    show wpAny _ _ (eval (.Lambda _ _ _ _) _) _ _ _
    rename Fr _ _ _ _ => F1
    rename News _ _ _ _ => N1
    refine law_lam (fv := [(Str.ofString "refs", L + 1 + 1 + 1 + 1 + 1), (Str.ofString "spot", L + 1), (Str.ofString "fresh", L + 1 + 1)]) (gl := [Str.ofString "_law_put"]) F1 N1 ap T hcc.1 hco ?_ rfl rfl (fun _ _ _ _ _ _ => rfl) rfl rfl rfl (by decide) (by intro p9 hp9; (repeat (rcases List.mem_cons.mp hp9 with rfl | hp9; exact ⟨rfl, rfl⟩)); cases hp9) (by intro x9 hx9; (repeat (rcases List.mem_cons.mp hx9 with rfl | hx9; exact rfl)); cases hx9)
    intro f fo h2 tk2 ps2 codes2 F2 N2 ap2 hco2 LA2 lt2
    clear F1 N1 ap hco
    k_steps
    show wpAny _ _ (call (Value.ref 346) [Value.ref _]) _ _ _
    refine law_put X T F2 N2 ap2 lt2 hA rfl rfl (by omega) (by omega) hhd hB gD ag dR dS dF LA2 ht3 hcc.2 hk hfr fun v1 h6 g6 d6 tk6 og6 ps36 hw1 F6 N6 hB6 tr6 ag6 => ?_
    rw [putOut_yes hfb hok] at hw1 hB6
    clear F2 N2 LA2 hB
    obtain rfl : v1 = .none := hw1
    k_steps
    have GD := gD.put (okName_mem hok) (vals_ok fr hfr hfb)
    rename Fr _ _ _ _ => F9
    rename News _ _ _ _ => N9
    exact (hQ _ _ _ _ _ GD ⟨_, _, _, _, _, _, _, _, _, _, _, _, _, _, _, _, _, _, fr_law F9 (by with_unfolding_all rfl) (by with_unfolding_all rfl) (by with_unfolding_all rfl) (by with_unfolding_all rfl) (by with_unfolding_all rfl) (by with_unfolding_all rfl), N9, by k_asm, by k_asm, dS, dF, dG, dO, hro, dR, by k_asm, by k_asm, by k_asm, by k_asm⟩)
  · have hok2 : okName k = false := by simpa using hok
    rw [setOut_name hfb hnn hok2] at hw2 hB8
    obtain ⟨t9, rfl⟩ := hw2
    clear F7 N7 hBh
    k_steps
    show wpAny _ _ (eval (.Lambda _ _ _ _) _) _ _ _
    rename Fr _ _ _ _ => F1
    rename News _ _ _ _ => N1
    refine law_lam (fv := [(Str.ofString "refs", L + 1 + 1 + 1 + 1 + 1), (Str.ofString "spot", L + 1), (Str.ofString "fresh", L + 1 + 1)]) (gl := [Str.ofString "_law_put"]) F1 N1 ap T hcc.1 hco ?_ rfl rfl (fun _ _ _ _ _ _ => rfl) rfl rfl rfl (by decide) (by intro p9 hp9; (repeat (rcases List.mem_cons.mp hp9 with rfl | hp9; exact ⟨rfl, rfl⟩)); cases hp9) (by intro x9 hx9; (repeat (rcases List.mem_cons.mp hx9 with rfl | hx9; exact rfl)); cases hx9)
    intro f fo h2 tk2 ps2 codes2 F2 N2 ap2 hco2 LA2 lt2
    clear F1 N1 ap hco
    k_steps
    show wpAny _ _ (call (Value.ref 346) [Value.ref _]) _ _ _
    refine law_put X T F2 N2 ap2 lt2 hA rfl rfl (by omega) (by omega) hhd hB gD ag dR dS dF LA2 ht3 hcc.2 hk hfr fun v1 h6 g6 d6 tk6 og6 ps36 hw1 F6 N6 hB6 tr6 ag6 => ?_
    rw [putOut_name hfb hok2] at hw1 hB6
    clear F2 N2 LA2 hB
    k_steps
    obtain ⟨t8, rfl⟩ := hw1
    refine ne_word (r := .inr wName) ⟨t8, rfl⟩ ⟨t9, rfl⟩ ?_
    k_steps
    have GD := gD
    rename Fr _ _ _ _ => F9
    rename News _ _ _ _ => N9
    exact (hQ _ _ _ _ _ GD ⟨_, _, _, _, _, _, _, _, _, _, _, _, _, _, _, _, _, _, fr_law F9 (by with_unfolding_all rfl) (by with_unfolding_all rfl) (by with_unfolding_all rfl) (by with_unfolding_all rfl) (by with_unfolding_all rfl) (by with_unfolding_all rfl), N9, by k_asm, by k_asm, dS, dF, dG, dO, hro, dR, by k_asm, by k_asm, by k_asm, by k_asm⟩)
end
end
example : ∀ w A s Q E, TZ w A s Q E → TZ w A s Q E := by intro w A s Q E h; w_top off; first | (walk1; fail) | exact h
section
def gT9.siteTag : Unit := ()
open gT9
open LG
example : True := by
  k_with "gT9 call ref" => (k_here; (try dsimp only [List.nil_append, List.cons_append, List.append_nil]); (with_reducible show wpAny _ _ (call (Value.ref 297) _) _ _ _); k_dflt (refine' spec_values ?sX ?sT ?sb ?sr ?su ?sh ?_; (case sb => exact keep_base (by k_asm) (by k_asm)); (case sX => k_asm); (case sT => k_asm); (case sr => k_room); (case su => k_units); (case sh => k_asm)); (all_goals first | ((with_reducible intro l' vs' c' h' tk' hb' kk' eL' nL'); (k_dflt (have N' := news_more (by k_asm) (news_keepAll (by k_asm) kk') eL' nL')); (k_dflt (have F' := fr_keepAll (by k_asm) kk')); clear nL' eL' kk'; (try k_sweep))))
  k_with "gT9 call ref" => (k_here; (try dsimp only [List.nil_append, List.cons_append, List.append_nil]); (with_reducible show wpAny _ _ (call (Value.ref 290) _) _ _ _); k_dflt (refine' spec_names ?sX ?sT ?sb ?sr ?su ?sh ?_; (case sb => exact keep_base (by k_asm) (by k_asm)); (case sX => k_asm); (case sT => k_asm); (case sr => k_room); (case su => k_units); (case sh => k_asm)); (all_goals first | ((with_reducible intro l' vs' c' h' tk' hb' kk' eL' nL'); (k_dflt (have N' := news_more (by k_asm) (news_keepAll (by k_asm) kk') eL' nL')); (k_dflt (have F' := fr_keepAll (by k_asm) kk')); clear nL' eL' kk'; (try k_sweep))))
  k_with "gT9 k_updF" => (exact upd4 (by k_asm))
  trivial
theorem own_delItem {M : Model} {A : Around} {E : Value → Shared → Prop} {s : Shared} {K : Frag} {x C L f : Addr} {h₀ : Heap} {m : Str → Option Value} {ox : Obj} {od : Option Obj} {i : Value} {Q : Unit → Shared → Prop} (F : Fr h₀ L s.heap m) (X₀ : K.In h₀) (I : InstAt s.heap x ox C od) (hq : noSeq K C = true) (hs : findIn K (.ref C) "__delitem__" = some (some (.ref f))) (hf : isFn K (.ref f) = true)
    (h : wpAny M A (call (.ref f) [.ref x, i]) (fun _ s' => Q () s') E s) : wpAny M A (delItem (.ref x) i) Q E s := by
  have X := X₀.keeps F.keep
  unfold delItem sequenceKey
  refine wpAny_holding (wpAny_bind (wpAny_bind (I.type.here ?_)))
  refine wpAny_bind ((anyM_none X hq).here ?_)
  rw [if_pos (show (!false) = true from rfl)]
  exact wpAny_pure (wpAny_bind (special_fn X I hs (beq_iff_eq.mp hf) (wpAny_mono h (fun _ _ z => wpAny_pure z) fun _ _ z => z)))
section
set_option maxHeartbeats 2000000 in
theorem blk5 : ∃ scope b, armOf 3 7 5 = some (scope, b) ∧ ∀ {p9 : Program} {lo9 : List Str} {w : World} {A : Around} {g h : Heap} {L fa I lS lD dp rr dx dh dg : Addr} {oI ol op : Obj} {t1 t2 : Tok} {D : DD} {k gd am fr : Bts} {old : Option Bts} {q kd : Int} {mg mb : Str → Option Value} {mean : ExcName → Option Value} {Q : Flow → Shared → Prop} {E : Value → Shared → Prop} {gs : Array GenState} {dr : Drawn} {tk : Nat} {os : OsState}, (hd.heap_1 w.params).In g → Top p9 lo9 mean mg mb g → CodeHd g 350 348 → CodeHd g 107 103 → A.frames = some [envOfC (Str.ofString "law") scope L fa (.ref 350)] → A.depth + 60 < recursionLimit → A.units + 600 < cLine → A.handled = none → k ∈ names9 → gd ∈ names6 → am ∈ names6 → fr ∈ vals6 → old ∈ olds4 → Good D → LawSt w g I lS lD dp rr dx dh dg L oI ol op t1 t2 D k gd am fr old q kd h gs →
    (∀ D' h' gs' dr' tk', Good D' → LawSt w g I lS lD dp rr dx dh dg L oI ol op t1 t2 D' k gd am fr old q kd h' gs' → Q .next ⟨h', gs', dr', tk', os⟩) → 
    wpAny (model PG w) A (execs b (envOfC (Str.ofString "law") scope L fa (.ref 350))) Q E ⟨h, gs, dr, tk, os⟩ := by
  refine ⟨_, _, by rfl, ?_⟩
  intro p9 lo9 w A g h L fa I lS lD dp rr dx dh dg oI ol op t1 t2 D k gd am fr old q kd mg mb mean Q E gs dr tk os X T hc1 hc2 hA hroom hun hhd hk hgd ham hfr hold gD hS hQ
  obtain ⟨oh, og, oR, oO, oG, oF, oS, ps, ps3, codes, m, tS, tF, tG, tA, tq, tk9, vO, F, N, ap, ag, dS, dF, dG, dO, hro, dR, hB, hBh, hco, ht3⟩ := hS
  have hk64 : k.length ≤ 64 := names9_len k hk
  have hgd64 : gd.length ≤ 64 := names6_len gd hgd
  have ham64 : am.length ≤ 64 := names6_len am ham
  obtain ⟨env9, he9, hk9, hf9⟩ : ∃ env9, A.frames = some [env9] ∧ env9.scope.kind = .function ∧ env9.frame = some L := ⟨_, hA, rfl, rfl⟩
  have loH := lo_dh ap
  have loG := lo_dg ap
  have gL100 : D.length ≤ 16777216 := Nat.le_trans gD.len100 (by decide)
  have hcc := And.intro hc1 hc2
  clear hc1 hc2
  have hol : ∀ b, old = some b → b.length ≤ 64 := olds_len old hold
  have hrefl : KeepAll g g := fun _ _ e => e
  k_steps
  · show wpAny _ _ (delItem _ _) _ _ _
    rename Fr _ _ _ _ => F7
    rename News _ _ _ _ => N7
    refine own_delItem F7 X (by k_inst) (by k_is) (by k_is) (by k_is) ?_
    have hfs : FramesOk _ [env9] := frames_push (l := []) F7 trivial hk9 hf9
    have hbf : ∀ b ∈ frs [env9], g.get? b = none := base_frames F7 hf9 base_self (fun _ h => nomatch h)
    refine spec_delitem X T (keep_base F7 base_self) (by omega) (by omega) hhd (refs_at3 no_frs F7 N7 hf9 base_self (by k_mem) (by k_mem) (by k_mem) hB loG) gD.len100 he9 hfs hbf (fun hs h10 tk10 o10 kk e10 b10 => ?_) (fun hs h10 tk10 kk => ?_)
    · have F11 := fr_turn F7 N7 (d := dg) (o := og) (by k_mem) kk
      have N11 := news_turn N7 (updD ap) kk e10
      clear F7 N7 hfs hbf kk e10 hB
      k_steps
      · have GD := gD.del (k := k)
        rename Fr _ _ _ _ => F9
        rename News _ _ _ _ => N9
        exact (hQ _ _ _ _ _ GD ⟨_, _, _, _, _, _, _, _, _, _, _, _, _, _, _, _, _, _, fr_law F9 (by with_unfolding_all rfl) (by with_unfolding_all rfl) (by with_unfolding_all rfl) (by with_unfolding_all rfl) (by with_unfolding_all rfl) (by with_unfolding_all rfl), N9, by k_asm, by k_asm, dS, dF, dG, dO, hro, dR, by k_asm, by k_asm, by k_asm, by k_asm⟩)
    · have F11 := fr_keepF F7 kk hf9
      have N11 := news_keepF N7 kk hf9
      clear F7 N7 hfs hbf kk
      k_steps
      · rename (getB D k).isSome = true => c4
        exact absurd c4 (by rw [hs]; decide)
      · have GD := gD
        rename Fr _ _ _ _ => F9
        rename News _ _ _ _ => N9
        exact (hQ _ _ _ _ _ GD ⟨_, _, _, _, _, _, _, _, _, _, _, _, _, _, _, _, _, _, fr_law F9 (by with_unfolding_all rfl) (by with_unfolding_all rfl) (by with_unfolding_all rfl) (by with_unfolding_all rfl) (by with_unfolding_all rfl) (by with_unfolding_all rfl), N9, by k_asm, by k_asm, dS, dF, dG, dO, hro, dR, by k_asm, by k_asm, by k_asm, by k_asm⟩)
  · have GD := gD
    rename Fr _ _ _ _ => F9
    rename News _ _ _ _ => N9
    exact (hQ _ _ _ _ _ GD ⟨_, _, _, _, _, _, _, _, _, _, _, _, _, _, _, _, _, _, fr_law F9 (by with_unfolding_all rfl) (by with_unfolding_all rfl) (by with_unfolding_all rfl) (by with_unfolding_all rfl) (by with_unfolding_all rfl) (by with_unfolding_all rfl), N9, by k_asm, by k_asm, dS, dF, dG, dO, hro, dR, by k_asm, by k_asm, by k_asm, by k_asm⟩)
end
end
example : ∀ w A s Q E, TZ w A s Q E → TZ w A s Q E := by intro w A s Q E h; w_top off; first | (walk1; fail) | exact h
section
noncomputable abbrev byText (w : World) : Bool := w.params.followText "set-order"
noncomputable def keyB : Value → Bts
  | .bytes b _ => b.toList
  | _ => []
noncomputable def SetData (w : World) (es : Array (Int × Value)) (t : SetTable) (ks : List Bts) : Prop :=
  ElemsOf (bytesKind PG w) es.toList ∧ (es.toList.map fun e => keyB e.2).Perm ks ∧ t.fits es.size = true ∧ (byText w = false → t.led = true) ∧ (0 < es.size → t.plain = false)
noncomputable def SetB (w : World) (o : Obj) (ks : List Bts) : Prop := o.ExactSet ∧ ∃ es ep t, o.data = .set es ep t ∧ SetData w es t ks
theorem put_led (t : SetTable) (j : Nat) : (t.put j).1.led = t.led ∧ (t.put j).1.plain = t.plain := ⟨rfl, rfl⟩
theorem orStandIn_led (t : SetTable) (n : Nat) : (t.orStandIn n).led = t.led ∧ ((t.orStandIn n).plain = t.plain ∨ (t.orStandIn n).plain = false) := by
  unfold SetTable.orStandIn
  split
  · exact ⟨rfl, .inl rfl⟩
  · exact ⟨rfl, .inr rfl⟩
theorem layNew_led (t : SetTable) (es : Array (Int × Value)) (h : Int) (x : Value) : (layNew t es h x).2.1.led = t.led ∧ ((layNew t es h x).2.1.plain = t.plain ∨ (layNew t es h x).2.1.plain = false) := by
  unfold layNew
  split
  · exact orStandIn_led _ _
  · exact ⟨rfl, .inr rfl⟩
theorem laid_led {mask finger moves : Nat} {led plain : Bool} {hs : Array Int} {r : SetTable × Array Nat} (h : SetTable.laid mask finger moves led plain hs = some r) : r.1.led = led ∧ r.1.plain = plain := by
  unfold SetTable.laid at h
  cases ho : SetTable.layClean mask hs with
  | none => rw [ho] at h; cases h
  | some owner => rw [ho] at h; cases h; exact ⟨rfl, rfl⟩
theorem relayAll_led (t : SetTable) (es : Array (Int × Value)) (n : Nat) : (relayAll t es n).2.1.led = t.led ∧ ((relayAll t es n).2.1.plain = t.plain ∨ (relayAll t es n).2.1.plain = false) := by
  unfold relayAll
  split
  · rename_i t' order heq
    have := laid_led heq
    dsimp only
    split
    · exact ⟨this.1, .inl this.2⟩
    · exact ⟨rfl, .inr rfl⟩
  · exact ⟨rfl, .inr rfl⟩
section
variable {w : World} {A : Around} {E : Value → Shared → Prop} {s : Shared}
theorem exact_put {o : Obj} {es : Array (Int × Value)} {ep : Nat} {t : SetTable} (hex : o.ExactSet) (hd : o.data = .set es ep t) (es' : Array (Int × Value)) (t' : SetTable) {w : World} {ks : List Bts} (h : SetData w es' t' ks) : SetB w { o with data := .set es' (ep + 1) t' } ks := ⟨hex, es', ep + 1, t', rfl, h⟩
theorem key_mem {k : Bts} {l : List (Int × Value)} (hel : ElemsOf (bytesKind PG w) l) : k ∈ l.map (fun e => keyB e.2) ↔ ∃ e ∈ l, (bytesKind PG w).is k e.2 = true := by
  constructor
  · intro h
    obtain ⟨e, he, q⟩ := List.mem_map.mp h
    obtain ⟨⟨k', hk', _⟩, _⟩ := hel e he
    obtain ⟨t, ht⟩ := isBytes_shape hk'
    refine ⟨e, he, ?_⟩
    rw [ht] at q ⊢
    simp only [keyB] at q
    subst q
    exact key_is
  · rintro ⟨e, he, hk⟩
    obtain ⟨t, ht⟩ := isBytes_shape hk
    exact List.mem_map.mpr ⟨e, he, by rw [ht]; rfl⟩
theorem add_tail {g : Bool → Sem Unit} (hg : ∀ (b : Bool) (s₁ : Shared) (Q' : Unit → Shared → Prop), Q' () s₁ → wpAny (model PG w) A (g b) Q' E s₁) {a : Addr} {o : Obj} {es : Array (Int × Value)} {ep : Nat} {t : SetTable} {es1 : Array (Int × Value)} {t2 : SetTable} {ks : List Bts} {wasDummy : Bool} {R : Option Bool → Shared → Prop}
    (ho : s.heap.get? a = some o) (hex : o.ExactSet) (hd : o.data = .set es ep t) (hS : SetData w es1 t2 ks) (hb : es1.size < scanBound)
    (h : ∀ h' o', Heap.SameBut a s.heap h' → h'.get? a = some o' → SetB w o' ks → R (some true) { s with heap := h' }) :
    wpAny (model PG w) A (do
        storeSet a es1 t2
        if (!wasDummy && t2.tooFull) = true then do
            g (relayAll t2 es1 (SetTable.grown es1.size)).2.2
            storeSet a (relayAll t2 es1 (SetTable.grown es1.size)).1 (relayAll t2 es1 (SetTable.grown es1.size)).2.1
            pure (some true)
          else pure (some true)) R E s := by
  refine wpAny_bind (wpAny_storeSet_of ho hd ?_ (fits_of_scanBound hb))
  obtain ⟨hel, hpm, hf, hl, hp⟩ := hS
  have hg1 : (s.heap.update a (Obj.putSet es1 t2)).get? a = some { o with data := .set es1 (ep + 1) t2 } := by
    have := Heap.get?_update_self (Obj.putSet es1 t2) ho (by rw [putSet_of es1 t2 hd]; rfl)
    rw [putSet_of es1 t2 hd] at this; exact this
  have hsb1 := Heap.SameBut.update s.heap a (Obj.putSet es1 t2)
  split
  · have hp2 := relayAll_perm t2 es1 (SetTable.grown es1.size)
    have hf2 := relayAll_fits t2 es1 (SetTable.grown es1.size)
    have hl2 := relayAll_led t2 es1 (SetTable.grown es1.size)
    generalize relayAll t2 es1 (SetTable.grown es1.size) = Rl at hp2 hf2 hl2 ⊢
    obtain ⟨es2, t3, gave⟩ := Rl
    dsimp only at hp2 hf2 hl2 ⊢
    have hsz : es2.size = es1.size := by rw [← Array.length_toList, hp2.length_eq, Array.length_toList]
    refine wpAny_bind (hg _ _ _ ?_)
    refine wpAny_bind (wpAny_storeSet_of hg1 rfl ?_ (fits_of_scanBound (by rw [hsz]; exact hb)))
    have hg2 : ((s.heap.update a (Obj.putSet es1 t2)).update a (Obj.putSet es2 t3)).get? a = some { o with data := .set es2 (ep + 1 + 1) t3 } := by
      have := Heap.get?_update_self (Obj.putSet es2 t3) hg1 (by rw [putSet_of es2 t3 rfl]; rfl)
      rw [putSet_of es2 t3 rfl] at this; exact this
    refine wpAny_pure (h _ _ (hsb1.trans (Heap.SameBut.update _ a _)) hg2 ⟨hex, es2, _, t3, rfl, hel.perm hp2, (hp2.map _).trans hpm, hf2, fun q => hl2.1.trans (hl q), fun q => ?_⟩)
    rcases hl2.2 with e | e
    · rw [e]; exact hp (by rw [← hsz]; exact q)
    · exact e
  · exact wpAny_pure (h _ _ hsb1 hg1 ⟨hex, es1, _, t2, rfl, hel, hpm, hf, hl, hp⟩)
theorem add_B {a : Addr} {o : Obj} {ks : List Bts} {k : Bts} {tk : Tok} {Q : Bool → Shared → Prop} (ho : s.heap.get? a = some o) (hS : SetB w o ks) (hz : ks.length + 1 < scanBound)
    (h : ∀ h' o' b, Heap.SameBut a s.heap h' → h'.get? a = some o' → SetB w o' (if k ∈ ks then ks else ks ++ [k]) → Q b { s with heap := h' }) :
    wpAny (model PG w) A (setAddHashed a (.bytes k.toArray tk) ((bytesKind PG w).hash k)) Q E s := by
  obtain ⟨hex, es, ep, t, hd, hel, hpm, hf, hl, hp⟩ := hS
  have hsz : es.size = ks.length := by rw [← Array.length_toList, ← hpm.length_eq, List.length_map]
  have hb : es.size < scanBound := by omega
  unfold setAddHashed setAddHashedIn
  refine wpAny_holding (wpAny_bind (wpAny_setState_of ho hd hf ?_))
  dsimp only
  rw [byScan_of rfl hb hel]
  simp only [↓reduceIte]
  unfold setAddByScan
  refine wpAny_bind (wpAny_bind (wpAny_rule (wpAny_bind (wpAny_setScan_of (k := k) key_is ho hd hf hel ?_))))
  cases hr : List.findIdx? (fun e => (bytesKind PG w).is k e.2) es.toList with
  | some j =>
    dsimp only
    obtain ⟨hj, hpj, _⟩ := List.findIdx?_eq_some_iff_getElem.mp hr
    have hk : k ∈ ks := hpm.mem_iff.mp ((key_mem hel).mpr ⟨es.toList[j], List.getElem_mem hj, hpj⟩)
    refine wpAny_pure (wpAny_pure ?_)
    have := h s.heap o false (Heap.SameBut.refl a s.heap) ho (by rw [if_pos hk]; exact ⟨hex, es, ep, t, hd, hel, hpm, hf, hl, hp⟩)
    exact this
  | none =>
    dsimp only
    have hk : k ∉ ks := fun hm => by
      obtain ⟨e, he, hq⟩ := (key_mem hel).mp (hpm.mem_iff.mpr hm)
      have := List.findIdx?_eq_none_iff.mp hr e he
      rw [hq] at this; cases this
    rw [if_neg hk] at h
    have hgw : ∀ (b : Bool) {s₁ : Shared} {Q' : Unit → Shared → Prop}, Q' () s₁ → wpAny (model PG w) A (match b with | true => rule "set.scan.the-table-gave-way" | false => pure ()) Q' E s₁ :=
      fun b s₁ Q' hq => by cases b <;> first | exact wpAny_pure hq | exact wpAny_rule hq
    have hperm := layNew_perm t es ((bytesKind PG w).hash k) (.bytes k.toArray tk)
    have hfits := layNew_fits t es ((bytesKind PG w).hash k) (.bytes k.toArray tk)
    have hled := layNew_led t es ((bytesKind PG w).hash k) (.bytes k.toArray tk)
    generalize layNew t es ((bytesKind PG w).hash k) (.bytes k.toArray tk) = Ln at hperm hfits hled ⊢
    obtain ⟨es1, t1, wasDummy, gave⟩ := Ln
    dsimp only at hperm hfits hled ⊢
    rw [Array.toList_push] at hperm
    have hel1 : ElemsOf (bytesKind PG w) es1.toList := (hel.push key_is rfl).perm hperm
    have hp1 : (es1.toList.map fun e => keyB e.2).Perm (ks ++ [k]) := by
      refine (hperm.map _).trans ?_
      rw [List.map_append]
      exact hpm.append (.of_eq rfl)
    have hsz1 : es1.size = ks.length + 1 := by rw [← Array.length_toList, hperm.length_eq, List.length_append, Array.length_toList, hsz]; rfl
    refine wpAny_bind (hgw _ ?_)
    have hend : ∀ h' o', Heap.SameBut a s.heap h' → h'.get? a = some o' → SetB w o' (ks ++ [k]) → Q true { s with heap := h' } := fun h' o' a1 a2 a3 => h h' o' true a1 a2 a3
    split
    · refine wpAny_bind ?_
      rw [hashByValue_scannable 8 rfl]
      refine wpAny_pure ?_
      refine add_tail ?_ ho hex hd (ks := ks ++ [k]) ⟨hel1, hp1, SetTable.fits_plain_off hfits, fun q => hled.1.trans (hl q), fun _ => rfl⟩ (by omega) ?_
      · intro b s₁ Q' hq; cases b <;> first | exact wpAny_pure hq | exact wpAny_rule hq
      · intro h' o' a1 a2 a3; dsimp only; exact wpAny_pure (hend h' o' a1 a2 a3)
    · rename_i hpl
      refine wpAny_bind (wpAny_pure ?_)
      simp only [↓reduceIte]
      refine add_tail ?_ ho hex hd (ks := ks ++ [k]) ⟨hel1, hp1, hfits, fun q => hled.1.trans (hl q), fun _ => by simpa using hpl⟩ (by omega) ?_
      · intro b s₁ Q' hq; cases b <;> first | exact wpAny_pure hq | exact wpAny_rule hq
      · intro h' o' a1 a2 a3; dsimp only; exact wpAny_pure (hend h' o' a1 a2 a3)
end
end
example : ∀ w A s Q E, TZ w A s Q E → TZ w A s Q E := by intro w A s Q E h; w_top off; first | (walk1; fail) | exact h
section
namespace SF
theorem slot_next : Slot "set_iterator" "__next__" "set_iterator.__next__" :=
  .of (owner := "set_iterator") (n := "__next__") (by rw [typeLookup_type, builtinLookup_eq_fast]; kernel_rfl) (by decide +kernel) (by decide +kernel) (by decide +kernel)
    (by first | exact .inl (by decide +kernel) | exact .inr (by decide +kernel)) (by rw [isSubtype_type]; kernel_rfl)
theorem slot_self : Slot "set_iterator" "__iter__" "set_iterator.__iter__" :=
  .of (owner := "set_iterator") (n := "__iter__") (by rw [typeLookup_type, builtinLookup_eq_fast]; kernel_rfl) (by decide +kernel) (by decide +kernel) (by decide +kernel)
    (by first | exact .inl (by decide +kernel) | exact .inr (by decide +kernel)) (by rw [isSubtype_type]; kernel_rfl)
theorem entry_next : entryFor table "set_iterator.__next__" = some Builtin.«set_iterator.__next__» := entryFor_of_tree (by kernel_rfl)
theorem entry_self : entryFor table "set_iterator.__iter__" = some Builtin.«dict_keyiterator.__iter__» := entryFor_alias (id' := "dict_keyiterator.__iter__") (by rw [fastTable_eq_tree]; kernel_rfl) rfl (by decide +kernel) (by rw [fastTable_eq_tree]; kernel_rfl)
theorem args_next (a : Value) : argsOk "set_iterator.__next__" ⟨[a], []⟩ := by unfold argsOk; kernel_rfl
theorem args_self (a : Value) : argsOk "set_iterator.__iter__" ⟨[a], []⟩ := by unfold argsOk; kernel_rfl
theorem entry_iter : entryFor table "set.__iter__" = some Builtin.«frozenset.__iter__» := entryFor_alias (id' := "frozenset.__iter__") (by rw [fastTable_eq_tree]; kernel_rfl) rfl (by decide +kernel) (by rw [fastTable_eq_tree]; kernel_rfl)
end SF
theorem erase_perm {α : Type} : ∀ {l : List α} {i : Nat} (h : i < l.length), (l[i] :: l.eraseIdx i).Perm l
  | x :: r, 0, _ => .refl _
  | x :: r, i + 1, h => by
    have := erase_perm (l := r) (i := i) (by simpa using h)
    simp only [List.getElem_cons_succ, List.eraseIdx_cons_succ]
    exact (List.Perm.swap _ _ _).trans (.cons _ this)
section
variable {M : Model} {A : Around} {E : Value → Shared → Prop}
theorem choose_any {src : Source} {n : Nat} {Q : Nat → Shared → Prop} {s : Shared} (hn : n ≠ 0) (h : ∀ x d', x < n → Q x { s with drawn := d' }) : wpAny M A (choose src n) Q E s := fun Γ p hΓ => ⟨hn, h _ _ (Nat.mod_lt _ (Nat.pos_of_ne_zero hn))⟩
theorem draw_any {α : Type} : ∀ (n : Nat) (xs : List α) {Q : List α → Shared → Prop} {s : Shared}, xs.length = n → (∀ ys d', ys.Perm xs → Q ys { s with drawn := d' }) → wpAny M A (drawOrder n xs) Q E s
  | 0, xs, Q, s, hn, h => by
    unfold drawOrder
    have : xs = [] := List.eq_nil_of_length_eq_zero hn
    subst this
    exact wpAny_pure (h [] s.drawn (.refl _))
  | n + 1, [], Q, s, hn, h => by cases hn
  | n + 1, x :: r, Q, s, hn, h => by
    unfold drawOrder
    refine wpAny_bind (choose_any (by simp) fun i d hi => ?_)
    have hlt : i < (x :: r).length := hi
    rw [List.getElem?_eq_getElem hlt]
    dsimp only
    refine wpAny_bind (draw_any n _ (by rw [List.length_eraseIdx_of_lt hlt, hn]; rfl) fun ys d' hp => wpAny_pure (h _ d' ?_))
    exact (List.Perm.cons _ hp).trans (erase_perm hlt)
end
theorem pick_go {α : Type} (next : Nat → Nat) : ∀ (fuel k : Nat) (left : List α) (out : Array α), left.length ≤ fuel → (pickOrder.go next fuel k left out).toList.Perm (out.toList ++ left)
  | 0, k, left, out, h => by
    have : left = [] := List.eq_nil_of_length_eq_zero (Nat.le_zero.mp h)
    subst this
    unfold pickOrder.go
    simp
  | fuel + 1, k, left, out, h => by
    unfold pickOrder.go
    cases left with
    | nil => simp
    | cons x r =>
      have hlt : next k % (x :: r).length < (x :: r).length := Nat.mod_lt _ (by simp)
      rw [List.getElem?_eq_getElem hlt]
      dsimp only
      refine (pick_go next fuel (k + 1) _ _ (by rw [List.length_eraseIdx_of_lt hlt]; simp at h ⊢; omega)).trans ?_
      rw [Array.toList_push, List.append_assoc]
      exact List.Perm.append_left _ (erase_perm hlt)
theorem pick_perm {α : Type} (next : Nat → Nat) (xs : Array α) : (pickOrder next xs).toList.Perm xs.toList := by
  have := pick_go next xs.size 0 xs.toList #[] (Nat.le_of_eq Array.length_toList)
  simpa [pickOrder] using this
theorem below_one (j n : Nat) : SetTable.below #[j] n = if j < n then 1 else 0 := by
  unfold SetTable.below SetTable.below.go
  simp only [List.size_toArray, List.length_cons, List.length_nil, Nat.zero_add, Nat.zero_lt_one, if_true]
  by_cases h : j < n
  · simp [h, SetTable.below.go]
  · simp [h, SetTable.below.go]
inductive FirstIs (w : World) (h : Heap) (S : Addr) (es : Array (Int × Value)) (ep : Nat) (t : SetTable) (T : Addr) : List Bts → Nat → Value → Prop
  | drawn (places : List Nat) (i : Nat) : byText w = false → (t.plain = false ∧ 1 < es.size) → (∀ p ∈ places, p < es.size) → (∃ o n, h.get? T = some o ∧ o.data = .seq (places.map fun (p : Nat) => rawInt (p : Int)).toArray n) → FirstIs w h S es ep t T (places.map fun p => keyB (es.getD p (0, .none)).2) i (.ref T)
  | text (i : Nat) (f : Nat) : byText w = true → FirstIs w h S es ep t T ((pickOrder (w.params.setOrder S ep) es).toList.map fun e => keyB e.2) i (.int f 0)
  | one (i f : Nat) : byText w = false → es.size ≤ 1 → t.led = true → t.place.size = es.size → (i = 0 → f = 0) → (0 < i → ∃ j, t.place = #[j] ∧ j < f) → FirstIs w h S es ep t T (es.toList.map fun e => keyB e.2) i (.int f 0)
end
example : ∀ w A s Q E, TZ w A s Q E → TZ w A s Q E := by intro w A s Q E h; w_top off; first | (walk1; fail) | exact h
section
inductive IsSetIter (w : World) (h : Heap) (it S T : Addr) (ks : List Bts) (i : Nat) : Prop
  | mk (oi oS : Obj) (es : Array (Int × Value)) (ep : Nat) (t : SetTable) (first : Value) (h1 : h.get? it = some oi) (h2 : oi.cls = .type "set_iterator") (h3 : oi.data = .fields #[first, .int (i : Int) 0, .ref S, .int (es.size : Int) 0, .int ((ep : Nat) : Int) 0]) (h4 : h.get? S = some oS) (h5 : oS.data = .set es ep t) (h6 : ElemsOf (bytesKind PG w) es.toList) (h7 : t.fits es.size = true) (h8 : FirstIs w h S es ep t T ks i first) (h9 : ks.length = es.size)
theorem IsSetIter.typeIs {w : World} {s : Shared} {it S T : Addr} {ks : List Bts} {i : Nat} (x : IsSetIter w s.heap it S T ks i) : s.TypeIs (.ref it) "set_iterator" := by
  obtain ⟨oi, _, _, _, _, _, a, b, -⟩ := x
  exact ⟨oi, a, b⟩
theorem FirstIs.at {w : World} {h h' : Heap} {S T : Addr} {es : Array (Int × Value)} {ep : Nat} {t : SetTable} {ks : List Bts} {i : Nat} {v : Value} (x : FirstIs w h S es ep t T ks i v) (k : ∀ o, h.get? T = some o → h'.get? T = some o) : FirstIs w h' S es ep t T ks i v := by
  cases x with
  | drawn places i a b c d => obtain ⟨o, n, e, q⟩ := d; exact .drawn places i a b c ⟨o, n, k o e, q⟩
  | text i f a => exact .text i f a
  | one i f a b c d e g => exact .one i f a b c d e g
theorem IsSetIter.at {w : World} {h h' : Heap} {it S T : Addr} {ks : List Bts} {i : Nat} (x : IsSetIter w h it S T ks i) (k : ∀ b ∈ [it, S, T], ∀ o, h.get? b = some o → h'.get? b = some o) : IsSetIter w h' it S T ks i := by
  obtain ⟨oi, oS, es, ep, t, first, a, b, c, d, e, f, g, q, r⟩ := x
  exact ⟨oi, oS, es, ep, t, first, k it (by simp) _ a, b, c, k S (by simp) _ d, e, f, g, q.at (k T (by simp)), r⟩
section
variable {w : World} {A : Around} {E : Value → Shared → Prop} {s : Shared}
theorem byText_any {M : Model} {Q : Bool → Shared → Prop} (h : Q (M.w.params.followText "set-order") s) : wpAny M A setsByText Q E s := by
  unfold setsByText
  exact wpAny_bind (wpAny_askSetting (wpAny_pure h))
theorem elem_val {es : Array (Int × Value)} (hel : ElemsOf (bytesKind PG w) es.toList) {i : Nat} {e : Int × Value} (h : es[i]? = some e) : ∃ t, e.2 = .bytes (keyB e.2).toArray t := by
  obtain ⟨⟨k, hk, _⟩, _⟩ := hel e (by rw [← Array.getElem?_toList] at h; exact List.mem_of_getElem? h)
  obtain ⟨t, ht⟩ := isBytes_shape hk
  exact ⟨t, by rw [ht]; rfl⟩
theorem stop_raise {α : Type} {Qx : α → Shared → Prop} {Ex : Value → Shared → Prop} (hh : A.handled = none) (h : ∀ h' e, (∀ b o, s.heap.get? b = some o → h'.get? b = some o) → (∃ o, h'.get? e = some o ∧ o.cls = .type "StopIteration") → Ex (.ref e) { s with heap := h' }) :
    wpAny (model PG w) A (newExc (.type "StopIteration") [] >>= fun e => (raiseNew e : Sem α)) Qx Ex s := by
  refine wpAny_bind ?_
  simp only [newExc, newTuple]
  refine wpAny_bind (wpAny_newObj_type ?_ (by size_fits))
  refine wpAny_bind (m := firstArgMember _ _) (wpAny_of_eq (a := Value.none) (by first | rfl | (simp only [firstArgMember]; rfl)) ?_)
  refine wpAny_newObj_type ?_ (by size_fits)
  simp only [raiseNew]
  refine wpAny_bind (wpAny_handled ?_)
  rw [hh]
  refine wpAny_bind (wpAny_pure (wpAny_throw ?_))
  exact h _ _ (fun b o e => Heap.get?_push_of_some _ (Heap.get?_push_of_some _ e)) ⟨_, Heap.get?_push_size _ rfl, rfl⟩
theorem set_next {it S T : Addr} {ks : List Bts} {i : Nat} {k : Bts} {Q : Option Value → Shared → Prop} (x : IsSetIter w s.heap it S T ks i) (hT : T ≠ it) (hS : S ≠ it) (hk : ks[i]? = some k)
    (h : ∀ t h', Heap.SameBut it s.heap h' → IsSetIter w h' it S T ks (i + 1) → Q (some (.bytes k.toArray t)) { s with heap := h' }) : wpAny (model PG w) A (pyNext (.ref it)) Q E s := by
  have hty := x.typeIs
  obtain ⟨oi, oS, es, ep, t, first, hi, hc, hd, hs, hsd, hel, hf, hF, hl⟩ := x
  unfold pyNext
  refine wpAny_bind (wpAny_attempt (wpAny_callSpecial?_slot (name := PySem.Str.ofString "__next__") hty SF.slot_next (wpAny_call_entry SF.slot_next hty SF.entry_next ?_ (SF.args_next _))))
  unfold Builtin.«set_iterator.__next__»
  refine wpAny_bind (m := slotArgs _ _ _) (wpAny_pure ?_)
  refine wpAny_bind (wpAny_fieldsOf hi hd ?_)
  dsimp only
  refine wpAny_bind (wpAny_setEntries_of hs hsd hf ?_)
  rw [if_neg (by simp)]
  cases hF with
  | drawn places i' a b c d =>
    obtain ⟨oT, n, hT1, hT2⟩ := d
    refine wpAny_bind (wpAny_seqItems hT1 hT2 ?_)
    dsimp only
    have hlt : i < places.length := by
      have := (List.getElem?_eq_some_iff.mp hk).1
      simpa using this
    have hp : (List.map (fun (p : Nat) => rawInt (p : Int)) places).toArray[((i : Nat) : Int).toNat]? = some (rawInt ((places[i] : Nat) : Int)) := by simp [hlt]
    rw [hp]
    dsimp only [rawInt]
    have hpl := c _ (List.getElem_mem hlt)
    refine wpAny_bind ?_
    unfold setNextDrawn
    refine wpAny_bind (wpAny_setState_of hs hsd hf ?_)
    dsimp only
    simp only [Int.toNat_natCast, bne_self_eq_false, Bool.false_eq_true, if_false, pure_bind]
    rw [Array.getElem?_eq_getElem hpl]
    refine wpAny_pure ?_
    have hke : keyB (es[places[i]]).2 = k := by
      rw [List.getElem?_map, List.getElem?_eq_getElem hlt] at hk
      simp only [Option.map_some, Option.some.injEq] at hk
      rw [← hk, Array.getD_eq_getD_getElem?, Array.getElem?_eq_getElem hpl]
      rfl
    obtain ⟨tv, hv⟩ := elem_val hel (Array.getElem?_eq_getElem hpl)
    rw [hke] at hv
    refine wpAny_bind (wpAny_setField hi hd (by simp) (wpAny_pure ⟨_, rfl, wpAny_pure ?_⟩))
    show Q (some (es[places[i]]).2) _
    rw [hv]
    refine h tv _ (Heap.SameBut.update ..) ⟨_, oS, es, ep, t, _, Heap.get?_update_self _ hi (Obj.isFreed_of_fields (Obj.data_mapFields hd _)), (Obj.cls_mapFields ..).trans hc, ?_, (Heap.SameBut.update ..).extBut _ _ hS hs, hsd, hel, hf, .drawn places (i + 1) a b c ⟨oT, n, (Heap.SameBut.update ..).extBut _ _ hT hT1, hT2⟩, by simpa using hl⟩
    rw [Obj.data_mapFields hd]; simp [rawInt]
  | text i' f a =>
    have hlt : i < (pickOrder (w.params.setOrder S ep) es).size := by
      have := (List.getElem?_eq_some_iff.mp hk).1
      simpa using this
    have hg : (pickOrder (w.params.setOrder S ep) es)[i]? = some (pickOrder (w.params.setOrder S ep) es)[i] := Array.getElem?_eq_getElem hlt
    have hmem : (pickOrder (w.params.setOrder S ep) es)[i] ∈ es.toList := (pick_perm (w.params.setOrder S ep) es).mem_iff.mp (by simp)
    generalize hpe : (pickOrder (w.params.setOrder S ep) es)[i] = pe at hg hmem
    have hke : keyB pe.2 = k := by
      rw [List.getElem?_map, Array.getElem?_toList, hg] at hk
      simpa using hk
    obtain ⟨⟨k', hk', _⟩, _⟩ := hel pe hmem
    obtain ⟨tv, hv⟩ := isBytes_shape hk'
    have hkk : k' = k := by rw [← hke, hv]; rfl
    rw [hkk] at hv
    refine wpAny_bind ?_
    unfold setNext
    refine wpAny_bind (wpAny_setState_of hs hsd hf ?_)
    dsimp only
    refine wpAny_bind (byText_any ?_)
    rw [show (model PG w).w.params.followText "set-order" = true from a]
    simp only [if_true, Int.toNat_natCast, bne_self_eq_false, Bool.false_eq_true, if_false]
    unfold setWalk
    refine wpAny_bind (wpAny_bind (wpAny_setState_of hs hsd hf ?_))
    dsimp only
    refine wpAny_bind (byText_any ?_)
    rw [show (model PG w).w.params.followText "set-order" = true from a]
    simp only [if_true]
    refine wpAny_bind (wpAny_askSetting (wpAny_pure (wpAny_pure ?_)))
    rw [show (model PG w).w.params.setOrder S ep = w.params.setOrder S ep from rfl, hg]
    simp only [Option.map_some]
    have hd1 : (Obj.mapFields (fun x => x.setIfInBounds 0 (rawInt (f : Int))) oi).data = .fields #[.int (f : Int) 0, .int (i : Int) 0, .ref S, .int (es.size : Int) 0, .int (ep : Int) 0] := by rw [Obj.data_mapFields hd]; simp [rawInt]
    refine wpAny_bind (wpAny_setField hi hd (by simp) ?_)
    refine wpAny_bind (wpAny_setField (Heap.get?_update_self _ hi (Obj.isFreed_of_fields hd1)) hd1 (by simp) (wpAny_pure ⟨_, rfl, wpAny_pure ?_⟩))
    rw [hv]
    refine h tv _ ((Heap.SameBut.update ..).trans (Heap.SameBut.update ..)) ⟨_, oS, es, ep, t, _, Heap.get?_update_self _ (Heap.get?_update_self _ hi (Obj.isFreed_of_fields hd1)) (Obj.isFreed_of_fields (Obj.data_mapFields hd1 _)), (Obj.cls_mapFields ..).trans ((Obj.cls_mapFields ..).trans hc), ?_, ((Heap.SameBut.update ..).trans (Heap.SameBut.update ..)).extBut _ _ hS hs, hsd, hel, hf, .text (i + 1) f a, by simpa using hl⟩
    rw [Obj.data_mapFields hd1]; simp [rawInt]
  | one i' f a b c d e g =>
    have hlt : i < es.size := by
      have := (List.getElem?_eq_some_iff.mp hk).1
      simpa using this
    have h0 : i = 0 := by omega
    subst h0
    have hf0 : f = 0 := e rfl
    subst hf0
    have hz : es.size = 1 := by omega
    obtain ⟨j, hj⟩ : ∃ j, t.place = #[j] := by
      have d2 : t.place.size = 1 := d.trans hz
      generalize t.place = pl at d2
      obtain ⟨l⟩ := pl
      match l, d2 with
      | [j], _ => exact ⟨j, rfl⟩
    obtain ⟨tv, hv⟩ := elem_val hel (Array.getElem?_eq_getElem hlt)
    have hke : keyB (es[0]).2 = k := by
      rw [List.getElem?_map, Array.getElem?_toList, Array.getElem?_eq_getElem hlt] at hk
      simpa using hk
    rw [hke] at hv
    refine wpAny_bind ?_
    unfold setNext
    refine wpAny_bind (wpAny_setState_of hs hsd hf ?_)
    dsimp only
    refine wpAny_bind (byText_any ?_)
    rw [show (model PG w).w.params.followText "set-order" = false from a]
    simp only [Bool.false_eq_true, if_false]
    show wpAny _ _ (if (!t.plain && decide (es.size > 1)) = true then _ else _) _ _ _
    rw [if_neg (by rw [hz]; simp)]
    show wpAny _ _ ((if (!t.led && !es.isEmpty) = true then _ else _) >>= _) _ _ _
    rw [if_neg (by rw [c]; simp)]
    refine wpAny_bind (wpAny_pure ?_)
    rw [hj]
    show wpAny _ _ (pure (match es[SetTable.below #[j] 0]?, (#[j] : Array Nat)[SetTable.below #[j] 0]? with | some (_, x), some j => some (x, j + 1) | _, _ => none)) _ _ _
    rw [below_one, if_neg (Nat.not_lt_zero _), Array.getElem?_eq_getElem hlt]
    refine wpAny_pure ?_
    have hd1 : (Obj.mapFields (fun x => x.setIfInBounds 0 (rawInt ((j + 1 : Nat) : Int))) oi).data = .fields #[.int ((j + 1 : Nat) : Int) 0, .int ((0 : Nat) : Int) 0, .ref S, .int (es.size : Int) 0, .int (ep : Int) 0] := by rw [Obj.data_mapFields hd]; simp [rawInt]
    refine wpAny_bind (wpAny_setField hi hd (by simp) ?_)
    refine wpAny_bind (wpAny_setField (Heap.get?_update_self _ hi (Obj.isFreed_of_fields hd1)) hd1 (by simp) (wpAny_pure ⟨_, rfl, wpAny_pure ?_⟩))
    show Q (some (es[0]).2) _
    rw [hv]
    refine h tv _ ((Heap.SameBut.update ..).trans (Heap.SameBut.update ..)) ⟨_, oS, es, ep, t, _, Heap.get?_update_self _ (Heap.get?_update_self _ hi (Obj.isFreed_of_fields hd1)) (Obj.isFreed_of_fields (Obj.data_mapFields hd1 _)), (Obj.cls_mapFields ..).trans ((Obj.cls_mapFields ..).trans hc), ?_, ((Heap.SameBut.update ..).trans (Heap.SameBut.update ..)).extBut _ _ hS hs, hsd, hel, hf, .one 1 (j + 1) a b c d (fun q => by cases q) (fun _ => ⟨j, hj, Nat.lt_succ_self _⟩), by simpa using hl⟩
    refine (Obj.data_mapFields hd1 _).trans ?_; simp [rawInt]
theorem set_end {it S T : Addr} {ks : List Bts} {Q : Option Value → Shared → Prop} (hh : A.handled = none) (x : IsSetIter w s.heap it S T ks ks.length) (hT : T ≠ it) (hS : S ≠ it)
    (h : ∀ h', Heap.ExtBut it s.heap h' → Q none { s with heap := h' }) : wpAny (model PG w) A (pyNext (.ref it)) Q E s := by
  have hty := x.typeIs
  obtain ⟨oi, oS, es, ep, t, first, hi, hc, hd, hs, hsd, hel, hf, hF, hl⟩ := x
  unfold pyNext
  refine wpAny_bind (wpAny_attempt (wpAny_callSpecial?_slot (name := PySem.Str.ofString "__next__") hty SF.slot_next (wpAny_call_entry SF.slot_next hty SF.entry_next ?_ (SF.args_next _))))
  have fin : ∀ (s1 : Shared), s1 = { s with heap := s1.heap } → Heap.ExtBut it s.heap s1.heap → ∀ e, (∃ o, s1.heap.get? e = some o ∧ o.cls = .type "StopIteration") → wpAny (model PG w) A (do if ← isInstance (.ref e) (.type "StopIteration") then pure none else throw (.ref e)) Q E s1 := by
    rintro s1 e1 hx e ⟨o, ho, hco⟩
    refine wpAny_bind (wpAny_isInstance (T := "StopIteration") (b := true) ⟨o, ho, hco⟩ isSubtype_stop ?_)
    rw [e1]
    exact wpAny_pure (h _ hx)
  unfold Builtin.«set_iterator.__next__»
  refine wpAny_bind (m := slotArgs _ _ _) (wpAny_pure ?_)
  refine wpAny_bind (wpAny_fieldsOf hi hd ?_)
  dsimp only
  refine wpAny_bind (wpAny_setEntries_of hs hsd hf ?_)
  rw [if_neg (by simp)]
  cases hF with
  | drawn places i' a b c d =>
    obtain ⟨oT, n, hT1, hT2⟩ := d
    refine wpAny_bind (wpAny_seqItems hT1 hT2 ?_)
    dsimp only
    have hp : (List.map (fun (p : Nat) => rawInt (p : Int)) places).toArray[(((List.map (fun p => keyB (es.getD p (0, .none)).2) places).length : Nat) : Int).toNat]? = none := by simp
    rw [hp]
    dsimp only
    refine wpAny_bind (wpAny_setField hi hd (by simp) ?_)
    have hd1 := Obj.data_mapFields hd fun x => x.setIfInBounds 0 (rawInt 0)
    refine wpAny_bind (wpAny_setField (Heap.get?_update_self _ hi (Obj.isFreed_of_fields hd1)) hd1 (by simp) ?_)
    refine stop_raise (show A.in1.handled = none from hh) fun h' e k hx => ?_
    exact fin _ rfl (fun b o hb q => k _ _ (((Heap.SameBut.update ..).trans (Heap.SameBut.update ..)).extBut _ _ hb q)) e hx
  | text i' f a =>
    refine wpAny_bind ?_
    unfold setNext
    refine wpAny_bind (wpAny_setState_of hs hsd hf ?_)
    dsimp only
    refine wpAny_bind (byText_any ?_)
    rw [show (model PG w).w.params.followText "set-order" = true from a]
    simp only [if_true, Int.toNat_natCast, bne_self_eq_false, Bool.false_eq_true, if_false]
    unfold setWalk
    refine wpAny_bind (wpAny_bind (wpAny_setState_of hs hsd hf ?_))
    dsimp only
    refine wpAny_bind (byText_any ?_)
    rw [show (model PG w).w.params.followText "set-order" = true from a]
    simp only [if_true]
    refine wpAny_bind (wpAny_askSetting (wpAny_pure (wpAny_pure ?_)))
    rw [show (model PG w).w.params.setOrder S ep = w.params.setOrder S ep from rfl, show (pickOrder (w.params.setOrder S ep) es)[(List.map (fun e => keyB e.2) (pickOrder (w.params.setOrder S ep) es).toList).length]? = none from by simp]
    simp only [Option.map_none]
    refine wpAny_bind (wpAny_setField hi hd (by simp) ?_)
    refine stop_raise (show A.in1.handled = none from hh) fun h' e k hx => ?_
    exact fin _ rfl (fun b o hb q => k _ _ ((Heap.SameBut.update ..).extBut _ _ hb q)) e hx
  | one i' f a b c d e g =>
    refine wpAny_bind ?_
    unfold setNext
    refine wpAny_bind (wpAny_setState_of hs hsd hf ?_)
    dsimp only
    refine wpAny_bind (byText_any ?_)
    rw [show (model PG w).w.params.followText "set-order" = false from a]
    simp only [Bool.false_eq_true, if_false]
    show wpAny _ _ (if (!t.plain && decide (es.size > 1)) = true then _ else _) _ _ _
    rw [if_neg (by simp; intro _; exact b)]
    show wpAny _ _ ((if (!t.led && !es.isEmpty) = true then _ else _) >>= _) _ _ _
    rw [if_neg (by rw [c]; simp)]
    refine wpAny_bind (wpAny_pure ?_)
    have hgo : es[SetTable.below t.place f]? = none := by
      rw [List.length_map, Array.length_toList] at e g
      rcases Nat.lt_or_ge 0 es.size with q | q
      · obtain ⟨j, hj, hlt⟩ := g q
        rw [hj, below_one, if_pos hlt]
        exact Array.getElem?_eq_none (by omega)
      · exact Array.getElem?_eq_none (by omega)
    show wpAny _ _ (pure (match es[SetTable.below t.place (f : Int).toNat]?, t.place[SetTable.below t.place (f : Int).toNat]? with | some (_, x), some j => some (x, j + 1) | _, _ => none)) _ _ _
    rw [Int.toNat_natCast, hgo]
    refine wpAny_pure ?_
    dsimp only
    refine wpAny_bind (wpAny_setField hi hd (by simp) ?_)
    refine stop_raise (show A.in1.handled = none from hh) fun h' e k hx => ?_
    exact fin _ rfl (fun b o hb q => k _ _ ((Heap.SameBut.update ..).extBut _ _ hb q)) e hx
theorem set_self {it S T : Addr} {ks : List Bts} {i : Nat} {Q : Value → Shared → Prop} (x : IsSetIter w s.heap it S T ks i) (h : Q (.ref it) s) : wpAny (model PG w) A (pyIter (.ref it)) Q E s := by
  refine wpAny_pyIter_slot x.typeIs SF.slot_self (wpAny_call_entry SF.slot_self x.typeIs SF.entry_self ?_ (SF.args_self _))
  show wpAny _ _ (ret (.ref it)) _ _ s
  exact wpAny_pure ⟨_, rfl, "set_iterator", _, x.typeIs, SF.slot_next.lookup, h⟩
theorem set_walks {it S T : Addr} {ks : List Bts} (hh : A.handled = none) (hT : T ≠ it) (hS : S ≠ it) : Walks PG w A it [it, S, T] [it] ks.length (fun i v => ∃ k t, ks[i]? = some k ∧ v = Value.bytes k.toArray t) (fun i h => IsSetIter w h it S T ks i) where
  sub := fun b hb => by rw [List.mem_singleton.mp hb]; exact .head _
  frame := fun _ _ _ x k => x.at k
  item := fun i s Q E hi x hQ => by
    refine set_next x hT hS (List.getElem?_eq_getElem hi) fun t h' hs hx => ?_
    exact hQ _ h' s.toks ⟨_, t, List.getElem?_eq_getElem hi, rfl⟩ hx fun b o hb e => hs.extBut _ _ (fun q => hb (by rw [q]; exact .head _)) e
  done := fun s Q E x hQ => set_end hh x hT hS fun h' hx => hQ h' s.toks fun b o hb e => hx _ _ (fun q => hb (by rw [q]; exact .head _)) e
  self := fun _ s Q E x hQ => set_self x hQ
theorem iter_set {S : Addr} {o : Obj} {ks : List Bts} {Q : Value → Shared → Prop} (ho : s.heap.get? S = some o) (hB : SetB w o ks) (hz : ks.length ≤ 1000)
    (h : ∀ it T h' d' ks', ks'.Perm ks → KeepAll s.heap h' → s.heap.get? it = none → (T = S ∨ T = s.heap.objs.size) → (∃ oT, h'.get? T = some oT) → T ≠ it → S ≠ it → s.heap.objs.size ≤ it → IsSetIter w h' it S T ks' 0 → Q (.ref it) { s with heap := h', drawn := d' }) :
    wpAny (model PG w) A (pyIter (.ref S)) Q E s := by
  obtain ⟨hex, es, ep, t, hd, hel, hpm, hf, hl, hp⟩ := hB
  have hty : s.TypeIs (.ref S) "set" := ⟨o, ho, hex.1⟩
  have hsz : es.size = ks.length := by rw [← Array.length_toList, ← hpm.length_eq, List.length_map]
  have hSlt := Heap.lt_size ho
  have hfit : t.place.size = es.size := by
    simp only [SetTable.fits, Bool.and_eq_true, beq_iff_eq] at hf
    exact hf.1
  refine wpAny_pyIter_slot hty PySem.F.slot_set_iter (wpAny_call_entry PySem.F.slot_set_iter hty SF.entry_iter ?_ (PySem.F.args_set_iter_1 _))
  unfold Builtin.«frozenset.__iter__» Builtin.Frozenset.slot0 Builtin.Frozenset.sizeOf
  refine wpAny_bind (wpAny_bind (m := slotArgs _ _ _) (wpAny_pure (wpAny_pure ?_)))
  refine wpAny_bind (wpAny_bind (wpAny_setEntries_of ho hd hf (wpAny_pure ?_)))
  refine wpAny_bind ?_
  unfold setDrawn
  refine wpAny_bind (wpAny_setState_of ho hd hf ?_)
  dsimp only
  refine wpAny_bind (byText_any ?_)
  refine wpAny_pure ?_
  -- what is left behind the first field
  have tail : ∀ (s1 : Shared) (first : Value) (T : Addr) (ks' : List Bts), s1 = { s with heap := s1.heap, drawn := s1.drawn } → KeepAll s.heap s1.heap → s.heap.objs.size ≤ s1.heap.objs.size → (T = S ∨ T = s.heap.objs.size) → (∃ oT, s1.heap.get? T = some oT) → ks'.Perm ks → FirstIs w s1.heap S es ep t T ks' 0 first →
      wpAny (model PG w) A.in1 (do let e ← setEpoch S; let it ← newFields "set_iterator" [first, rawInt 0, .ref S, rawInt (es.size : Int), rawInt (e : Int)]; ret it) (fun fin s' => ∃ v, fin = .done (.ret v) ∧ (∃ T' r, s'.TypeIs v T' ∧ typeLookup (.type T') (Str.ofString "__next__") = pure (some r) ∧ Q v s')) E s1 := by
    intro s1 first T ks' e1 hk hle hTS hTl hpk hF
    obtain ⟨oT, hoT⟩ := hTl
    refine wpAny_bind (wpAny_setEpoch_of (hk _ _ ho) hd hf ?_)
    refine wpAny_bind (wpAny_newObj_type (wpAny_pure ⟨_, rfl, "set_iterator", _, ⟨_, Heap.get?_push_size _ rfl, rfl⟩, SF.slot_next.lookup, ?_⟩))
    have hk2 : KeepAll s.heap (s1.heap.push { cls := .type "set_iterator", data := .fields ([first, rawInt 0, .ref S, rawInt (es.size : Int), rawInt (ep : Int)] : List Value).toArray }) := fun b o' e => Heap.get?_push_of_some _ (hk _ _ e)
    rw [e1]
    refine h s1.heap.objs.size T _ s1.drawn ks' hpk hk2 (Heap.get?_none_of_le hle) hTS ⟨oT, Heap.get?_push_of_some _ hoT⟩ (Nat.ne_of_lt (Heap.lt_size hoT)) (Nat.ne_of_lt (Nat.lt_of_lt_of_le hSlt hle)) hle ?_
    exact ⟨_, o, es, ep, t, first, Heap.get?_push_size _ rfl, rfl, rfl, hk2 _ _ ho, hd, hel, hf, hF.at fun o' e => Heap.get?_push_of_some _ e, by rw [hpk.length_eq, hsz]⟩
  show wpAny _ _ (if (!(byText w) && (!t.plain && decide (es.size > 1))) = true then _ else _) _ _ _
  by_cases hb : byText w = true
  · rw [if_neg (by rw [hb]; simp)]
    refine wpAny_bind (wpAny_pure ?_)
    exact tail s (rawInt 0) S _ rfl (fun _ _ e => e) (Nat.le_refl _) (.inl rfl) ⟨o, ho⟩ (((pick_perm (w.params.setOrder S ep) es).map _).trans hpm) (.text 0 0 hb)
  · have hbf : byText w = false := by simpa using hb
    by_cases h1 : 1 < es.size
    · have hpl := hp (by omega)
      rw [if_pos (by rw [hbf, hpl]; simp; exact h1)]
      refine wpAny_bind (draw_any es.size _ (by simp) fun ys d' hperm => ?_)
      have hys : ∀ p ∈ ys, p < es.size := fun p hp' => by simpa using hperm.mem_iff.mp hp'
      refine wpAny_bind (wpAny_newTuple (hsz := by have := hperm.length_eq; simp only [List.length_range] at this; rw [sizeLine_eq, List.length_map, this, hsz]; omega) ?_)
      refine tail { s with heap := s.heap.push { cls := .type "tuple", data := .seq (ys.map fun (i : Nat) => rawInt (i : Int)).toArray }, drawn := d' } (.ref s.heap.objs.size) s.heap.objs.size (ys.map fun p => keyB (es.getD p (0, .none)).2) rfl (fun b o' e => Heap.get?_push_of_some _ e) ?_ (.inr rfl) ⟨_, Heap.get?_push_size _ rfl⟩ ?_ ?_
      · show s.heap.objs.size ≤ (s.heap.push _).objs.size
        rw [Heap.size_push]; exact Nat.le_succ _
      · refine ((hperm.map _).trans ?_).trans hpm
        refine .of_eq ?_
        apply List.ext_getElem
        · simp
        · intro i h1 h2
          simp at h1 h2
          simp [Array.getD_eq_getD_getElem?, h1]
      · exact .drawn ys 0 hbf ⟨hpl, h1⟩ hys ⟨_, _, Heap.get?_push_size _ rfl, rfl⟩
    · rw [if_neg (by simp; intro _ _; omega)]
      refine wpAny_bind (wpAny_pure ?_)
      exact tail s (rawInt 0) S _ rfl (fun _ _ e => e) (Nat.le_refl _) (.inl rfl) ⟨o, ho⟩ hpm (.one 0 0 hbf (by omega) (hl hbf) hfit (fun _ => rfl) (fun q => absurd q (Nat.lt_irrefl _)))
end
end
example : ∀ w A s Q E, TZ w A s Q E → TZ w A s Q E := by intro w A s Q E h; w_top off; first | (walk1; fail) | exact h
section
noncomputable abbrev newSetObj (w : World) : Obj := { cls := .type "set", dict := none, data := .set #[] 0 (.fresh 0 0 (!byText w)) }
theorem newSet_B (w : World) : SetB w (newSetObj w) [] := ⟨⟨rfl, rfl, rfl⟩, #[], 0, _, rfl, fun e he => by simp at he, .refl _, rfl, fun h => by show (!byText w) = true; rw [h]; rfl, fun h => by cases h⟩
section
variable {w : World} {A : Around} {E : Value → Shared → Prop} {s : Shared}
theorem code_set_led {args : List Value} (hc : checkBuiltinCall "set.__new__" ⟨.type "set" :: args, []⟩ = pure ()) {Q₁ : Value → Shared → Prop} (h : Q₁ (.ref s.heap.objs.size) { s with heap := s.heap.push (newSetObj w) }) :
    codeAny (model PG w) A (.call (.builtin "set.__new__") ⟨.type "set" :: args, []⟩) (wants Q₁ E) s := by
  refine codeAny_of_tree ?_
  show wpAny _ A.in1 (do checkBuiltinCall "set.__new__" ⟨.type "set" :: args, []⟩; again (.builtin "set.__new__" ⟨.type "set" :: args, []⟩)) _ _ s
  refine wpAny_bind (wpAny_of_eq hc (wpAny_pure ⟨plainId_quiet PySem.F.plain_set_new _, codeAny_builtin PySem.F.entry_set_new ?_⟩))
  rw [Around.under_plainId PySem.F.plain_set_new _]
  unfold Builtin.«set.__new__» Builtin.Frozenset.newClass
  have hsub := sub_set_self
  obtain ⟨hp, g, d, tk, os⟩ := s
  dsimp only
  wp_walk
  refine wpAny_askSetting (wpAny_pure ?_)
  dsimp only
  simp only [newObj]
  exact wpAny_bind (wpAny_alloc (wpAny_pure (wpAny_pure h)))
theorem set_codes {args : List Value} {Q : Value → Shared → Prop} (hct : checkTypeCall "set" ⟨args, []⟩ = pure ()) (hc : checkBuiltinCall "set.__new__" ⟨.type "set" :: args, []⟩ = pure ())
    (hi : ∀ (Qc : Unit → Shared → Prop) (Ec : Value → Shared → Prop) (A' : Around), Qc () { s with heap := s.heap.push (newSetObj w) } → wpAny (model PG w) A' (checkBuiltinCall "set.__init__" ⟨.ref s.heap.objs.size :: args, []⟩) Qc Ec { s with heap := s.heap.push (newSetObj w) })
    (hb : wpAny (model PG w) A.in1.in1 (Builtin.«set.__init__» ⟨.ref s.heap.objs.size :: args, []⟩)
      (fun fin s' => match fin with | .done f => wants (fun r s₂ => r = .none ∧ Q (.ref s.heap.objs.size) s₂) E (.ok f) s' | .again c' => c'.quiet = true ∧ codeAny (model PG w) A.in1 c' (wants (fun r s₂ => r = .none ∧ Q (.ref s.heap.objs.size) s₂) E) s')
      (fun e s' => wants (fun r s₂ => r = .none ∧ Q (.ref s.heap.objs.size) s₂) E (.error e) s') { s with heap := s.heap.push (newSetObj w) }) :
    wpAny (model PG w) A (call (.type "set") args) Q E s := by
  obtain ⟨c, tl, hmro⟩ := PySem.F.called_set.mro
  have hmade := PySem.F.called_set.made
  have hsub := PySem.F.called_set.sub
  refine wpAny_call (codeAny_of_tree ?_)
  show wpAny _ _ (callAny (.type "set") _) _ _ _
  refine wpAny_pure ⟨Code.quiet_builtin _ (by decide +kernel), codeAny_builtin PySem.F.entry_type_call ?_⟩
  rw [Around.under_plain (weight_type_call_type "set" args []) rfl]
  have h1 := PySem.F.called_set.notType
  have h2 := PySem.F.called_set.canCreate
  repeat (any_goals (first | assumption | wp_step))
  refine codeAny_mono (code_set_led hc (E := E) (Q₁ := fun obj s₁ => obj = .ref s.heap.objs.size ∧ s₁ = { s with heap := s.heap.push (newSetObj w) }) ⟨rfl, rfl⟩) fun r s₁ hr => ?_
  cases r with
  | error e => exact hr
  | ok fl =>
    cases fl with
    | ret obj =>
      obtain ⟨rfl, rfl⟩ := hr
      have hS : (s.heap.push (newSetObj w)).get? s.heap.objs.size = some (newSetObj w) := Heap.get?_push_size _ rfl
      have hT : Shared.TypeIs { s with heap := s.heap.push (newSetObj w) } (.ref s.heap.objs.size) "set" := ⟨_, hS, rfl⟩
      have hli := PySem.F.called_set.init.lookup
      have hbi := PySem.F.called_set.init.bind (.ref s.heap.objs.size)
      repeat (any_goals (first | assumption | wp_step))
      refine codeAny_mono (codeAny_call_builtin (R := wants (fun r s₂ => r = .none ∧ Q (.ref s.heap.objs.size) s₂) E) PySem.F.called_set.init.plain PySem.F.entry_set_init (hi _ _ _ hb)) fun r₂ s₂ hr₂ => ?_
      cases r₂ with
      | error e => exact hr₂
      | ok fl₂ =>
        cases fl₂ with
        | ret r =>
          obtain ⟨rfl, hq⟩ := hr₂
          repeat (any_goals (first | assumption | wp_step))
        | _ => exact hr₂.elim
    | _ => exact hr.elim
theorem set_nil {Q : Value → Shared → Prop} (h : Q (.ref s.heap.objs.size) { s with heap := s.heap.push (newSetObj w) }) : wpAny (model PG w) A (call (.type "set") []) Q E s := by
  refine set_codes PySem.F.typeCall_set_0 PySem.F.newCall_set_0 (fun Qc Ec A' hq => check_set_init ⟨_, Heap.get?_push_size _ rfl, rfl⟩ hq) ?_
  unfold Builtin.«set.__init__» noKeywords
  wp_walk
  exact ⟨rfl, h⟩
end
end
example : ∀ w A s Q E, TZ w A s Q E → TZ w A s Q E := by intro w A s Q E h; w_top off; first | (walk1; fail) | exact h
section
theorem SetB.perm {w : World} {o : Obj} {ks ks' : List Bts} (h : SetB w o ks) (p : ks.Perm ks') : SetB w o ks' :=
  let ⟨a, es, ep, t, b, c, d, e⟩ := h; ⟨a, es, ep, t, b, c, d.trans p, e⟩
section
variable {w : World} {A : Around} {E : Value → Shared → Prop} {s : Shared}
theorem pyHash_B {k : Bts} {t : Tok} {Q : Int → Shared → Prop} (h : Q ((bytesKind PG w).hash k) { s with toks := s.toks + 1 }) : wpAny (model PG w) A (pyHash (.bytes k.toArray t)) Q E s := (bytesKind PG w).pyHash key_is h
theorem setAdd_B {a : Addr} {o : Obj} {ks : List Bts} {k : Bts} {t : Tok} {Q : Bool → Shared → Prop} (ho : s.heap.get? a = some o) (hS : SetB w o ks) (hz : ks.length + 1 < scanBound)
    (h : ∀ h' o' b, Heap.SameBut a s.heap h' → h'.get? a = some o' → SetB w o' (if k ∈ ks then ks else ks ++ [k]) → Q b { s with heap := h', toks := s.toks + 1 }) : wpAny (model PG w) A (setAdd a (.bytes k.toArray t)) Q E s := by
  unfold setAdd
  refine wpAny_holding (wpAny_bind (pyHash_B ?_))
  exact add_B (s := { s with toks := s.toks + 1 }) ho hS hz h
theorem call_add {a : Addr} {o : Obj} {ks : List Bts} {k : Bts} {t : Tok} {Q : Value → Shared → Prop} (ho : s.heap.get? a = some o) (hS : SetB w o ks) (hz : ks.length + 1 < scanBound)
    (h : ∀ h' o', Heap.SameBut a s.heap h' → h'.get? a = some o' → SetB w o' (if k ∈ ks then ks else ks ++ [k]) → Q .none { s with heap := h', toks := s.toks + 1 }) : wpAny (model PG w) A (call (.builtin "set.add") [.ref a, .bytes k.toArray t]) Q E s := by
  have hT : s.TypeIs (.ref a) "set" := ⟨o, ho, hS.1.1⟩
  refine wpAny_call_entry PySem.F.slot_set_add hT PySem.F.entry_set_add ?_ (PySem.F.args_set_add_2 _ _)
  unfold Builtin.«set.add» Builtin.Frozenset.oneOther
  simp only [List.isEmpty_nil, bind_assoc]
  unfold Builtin.Frozenset.addrOf
  refine wpAny_bind (wpAny_pure ?_)
  try dsimp only
  refine wpAny_bind (wpAny_pure ?_)
  try dsimp only
  refine wpAny_bind (setAdd_B ho hS hz fun h' o' b a1 a2 a3 => ?_)
  show wpAny _ _ (ret Value.none) _ _ _
  exact wpAny_pure ⟨_, rfl, h h' o' a1 a2 a3⟩
theorem meth_add {a : Addr} {o : Obj} {ks : List Bts} {pl : Sem Bool} {Q : Value × List Value → Shared → Prop} (ho : s.heap.get? a = some o) (hS : SetB w o ks) (h : Q (.builtin "set.add", [.ref a]) s) :
    wpAny (model PG w) A (getMethod (.ref a) "add" pl) Q E s :=
  getMethod_builtin ⟨o, ho, hS.1.1⟩ PySem.F.plainAttrs_set PySem.F.slot_set_add PySem.F.type_set_add (fun b e => by cases e; exact ⟨o, ho, hS.1.2.1⟩) h
end
section
variable {w : World} {A : Around} {R : Result → Shared → Prop} {I : Addr} {fp wr : List Addr} {n : Nat} {P : Nat → Value → Prop} {St : Nat → Heap → Prop}
theorem update_loop (W : Walks PG w A.in1 I fp wr n P St) (S : Addr) (hSf : S ∉ fp) (ks : List Bts) (hn : ks.length = n) (hP : ∀ i v, P i v → ∃ k t, ks[i]? = some k ∧ v = Value.bytes k.toArray t) (hnd : ks.Nodup) (hz : ks.length < 1000) :
    ∀ (k i : Nat) (s : Shared) (o : Obj), n - i = k → i ≤ n → St i s.heap → s.heap.get? S = some o → SetB w o (ks.take i) →
      (∀ h' tk o', (∀ b o, b ≠ S → b ∉ wr → s.heap.get? b = some o → h'.get? b = some o) → h'.get? S = some o' → SetB w o' ks → R (.ok (.ret .none)) { s with heap := h', toks := tk }) →
      codeAny (model PG w) A (.builtin "set.update.loop" ⟨[.ref S, .ref I], []⟩) R s := by
  have hSw : S ∉ wr := fun h => hSf (W.sub _ h)
  intro k
  induction k with
  | zero =>
    intro i s o hk hi hst ho hB hR
    obtain rfl : i = n := Nat.le_antisymm hi (Nat.le_of_sub_eq_zero hk)
    refine codeAny_builtin F.entry_set_update_loop ?_
    rw [Around.under_plainId F.plain_set_update_loop _]
    show wpAny _ A.in1 (pyNext (.ref I) >>= _) _ _ s
    refine wpAny_bind (W.done s _ _ hst fun h' tk hkk => ?_)
    show wpAny _ A.in1 (ret Value.none) _ _ _
    exact wpAny_pure (hR h' tk o (fun b o _ hb e => hkk b o hb e) (hkk _ _ hSw ho) (by rw [← hn, List.take_length] at hB; exact hB))
  | succ k ih =>
    intro i s o hk hi hst ho hB hR
    have hlt : i < n := Nat.lt_of_sub_pos (by rw [hk]; exact Nat.succ_pos k)
    refine codeAny_builtin F.entry_set_update_loop ?_
    rw [Around.under_plainId F.plain_set_update_loop _]
    show wpAny _ A.in1 (pyNext (.ref I) >>= _) _ _ s
    refine wpAny_bind (W.item i s _ _ hlt hst fun v h1 tk1 hPv hst1 hk1 => ?_)
    obtain ⟨kk, t, hkk, rfl⟩ := hP i v hPv
    show wpAny _ A.in1 (holding [Value.bytes kk.toArray t] (setAdd S (.bytes kk.toArray t)) >>= _) _ _ _
    refine wpAny_bind (wpAny_holding (setAdd_B (hk1 _ _ hSw ho) hB (by rw [List.length_take]; unfold scanBound; omega) fun h2 o2 b hs2 ho2 hB2 => ?_))
    have hilt : i < ks.length := by rw [hn]; exact hlt
    have hki : ks[i] = kk := by rw [List.getElem?_eq_getElem hilt] at hkk; exact Option.some.inj hkk
    have hnew : kk ∉ ks.take i := fun hm => by
      have := List.nodup_append.mp (by rw [List.take_append_drop i ks]; exact hnd : (ks.take i ++ ks.drop i).Nodup)
      exact this.2.2 kk hm kk (by rw [List.drop_eq_getElem_cons hilt, hki]; exact .head _) rfl
    rw [if_neg hnew, ← hki, List.take_append_getElem hilt] at hB2
    refine wpAny_pure ⟨plainId_quiet F.plain_set_update_loop _, ih (i + 1) _ o2 (by rw [Nat.sub_succ, hk]; rfl) hlt (W.frame _ _ _ hst1 fun b hb o e => hs2.extBut _ _ (fun q => hSf (q ▸ hb)) e) ho2 hB2 fun h' tk o' hkk' e1 e2 => ?_⟩
    exact hR h' tk o' (fun b o n1 n2 e => hkk' b o n1 n2 (hs2.extBut _ _ n1 (hk1 _ _ n2 e))) e1 e2
end
section
variable {w : World} {A : Around} {E : Value → Shared → Prop} {s : Shared}
theorem set_view {v d : Addr} {kvs : List (Bts × Value)} {ep : Nat} {Q : Value → Shared → Prop} (hh : A.handled = none) (hv : KdlKeysView s.heap v d) (hm : s.heap.DictAt (bytesKind PG w) d kvs ep) (hz : kvs.length < 1000) (hnd : (kvs.map (·.1)).Nodup)
    (h : ∀ h' tk o, KeepAll s.heap h' → h'.get? s.heap.objs.size = some o → SetB w o (kvs.map (·.1)) → Q (.ref s.heap.objs.size) { s with heap := h', toks := tk }) :
    wpAny (model PG w) A (call (.type "set") [.ref v]) Q E s := by
  refine set_codes (PySem.F.typeCall_set_1 _) (PySem.F.newCall_set_1 _) (fun Qc Ec A' hq => check_set_init_1 ⟨_, Heap.get?_push_size _ rfl, rfl⟩ hq) ?_
  have hkeep : ∀ b o, s.heap.get? b = some o → (s.heap.push (newSetObj w)).get? b = some o := fun b o e => Heap.get?_push_of_some _ e
  obtain ⟨ov, hov, hcv, hdv⟩ := id hv
  obtain ⟨od, es, hod, hrest⟩ := id hm
  have hvT : Shared.TypeIs { s with heap := s.heap.push (newSetObj w) } (.ref v) "dict_keys" := ⟨ov, hkeep _ _ hov, hcv⟩
  have hS0 : (s.heap.push (newSetObj w)).get? s.heap.objs.size = some (newSetObj w) := Heap.get?_push_size _ rfl
  have hne1 : (Value.type "dict_keys" == Value.type "dict") = false := by decide
  have hsls : isSubtype (.type "dict_keys") (.type "set") = pure false := by rw [isSubtype_type]; kernel_rfl
  have hslf : isSubtype (.type "dict_keys") (.type "frozenset") = pure false := by rw [isSubtype_type]; kernel_rfl
  have hv1 : KdlKeysView (s.heap.push (newSetObj w)) v d := ⟨ov, hkeep _ _ hov, hcv, hdv⟩
  have hm1 : (s.heap.push (newSetObj w)).DictAt (bytesKind PG w) d kvs ep := ⟨od, es, hkeep _ _ hod, hrest⟩
  have hov1 := hkeep _ _ hov
  obtain ⟨vc, vd, vdt, vsl⟩ := ov
  simp only at hcv hdv
  subst hcv; subst hdv
  unfold Builtin.«set.__init__» noKeywords Builtin.Frozenset.updateFrom
  generalize hPI : pyIter = PI
  wp_walk
  subst hPI
  refine kdl_pyIter_keys hv1 hm1 ?_
  refine wpAny_bind (wpAny_runValue ?_)
  have hSlt : s.heap.objs.size < (s.heap.push (newSetObj w)).objs.size := Heap.lt_size hS0
  have hdlt : d < s.heap.objs.size := Heap.lt_size hod
  have hIne : (s.heap.push (newSetObj w)).objs.size ≠ s.heap.objs.size := Nat.ne_of_gt hSlt
  refine update_loop (Walks.dictKeys (knd := bytesKind PG w) (by simp [hh]) _ d (Nat.ne_of_lt (Nat.lt_trans hdlt hSlt)) kvs ep) s.heap.objs.size ?_ (kvs.map (·.1)) (by simp) ?_ hnd (by simpa using hz) (kvs.length - 0) 0 _ (newSetObj w) (by omega) (Nat.zero_le _) ⟨⟨_, Heap.get?_push_size _ rfl, rfl, by simp⟩, ?_⟩ (Heap.get?_push_of_some _ hS0) (newSet_B w) ?_
  · simp only [List.mem_cons, List.not_mem_nil, or_false, not_or]
    exact ⟨Ne.symm hIne, Nat.ne_of_gt hdlt⟩
  · rintro i u ⟨k, x, hx, hk⟩
    obtain ⟨t, rfl⟩ := isBytes_shape hk
    exact ⟨k, t, by rw [List.getElem?_map, hx]; rfl, rfl⟩
  · obtain ⟨od', es', hod', hr'⟩ := hm1
    exact ⟨od', es', Heap.get?_push_of_some _ hod', hr'⟩
  · intro h' tk o' hk' e1 e2
    show wpAny _ _ _ _ _ _
    refine wpAny_pure ?_
    show wpAny _ _ (ret Value.none) _ _ _
    refine wpAny_pure ⟨rfl, h h' tk o' (fun b o e => ?_) e1 e2⟩
    have hlt := Heap.lt_size e
    exact hk' b o (Nat.ne_of_lt hlt) (fun hm => Nat.ne_of_lt (Nat.lt_trans hlt hSlt) (List.mem_singleton.mp hm)) (Heap.get?_push_of_some _ (hkeep _ _ e))
end
end
example : ∀ w A s Q E, TZ w A s Q E → TZ w A s Q E := by intro w A s Q E h; w_top off; first | (walk1; fail) | exact h
section
namespace SF
theorem slot_bytes_lt : Slot "bytes" (cmpInfo .Lt).2.1 "bytes.__lt__" :=
  .of (owner := "bytes") (n := "__lt__") (by rw [typeLookup_type, builtinLookup_eq_fast]; kernel_rfl) (by decide +kernel) (by decide +kernel) (by decide +kernel)
    (by first | exact .inl (by decide +kernel) | exact .inr (by decide +kernel)) (by rw [isSubtype_type]; kernel_rfl)
theorem entry_bytes_lt : entryFor table "bytes.__lt__" = some Builtin.«bytes.__lt__» := entryFor_of_tree (by kernel_rfl)
theorem args_bytes_lt (a b : Value) : argsOk "bytes.__lt__" ⟨[a, b], []⟩ := by unfold argsOk; kernel_rfl
end SF
noncomputable def nats (b : Bts) : List Nat := b.map UInt8.toNat
theorem nats_inj {a b : Bts} (h : nats a = nats b) : a = b := List.map_inj_right (fun x y e => UInt8.toNat_inj.mp e) |>.mp h
theorem order_lt : ∀ a b : Bts, (Builtin.Bytes.order a b == .lt) = decide (nats a < nats b)
  | [], [] => by simp [Builtin.Bytes.order, nats]
  | [], _ :: _ => by simp [Builtin.Bytes.order, nats]
  | _ :: _, [] => by simp [Builtin.Bytes.order, nats]
  | x :: xs, y :: ys => by
    have ih := order_lt xs ys
    have e : (nats (x :: xs) < nats (y :: ys)) ↔ (x.toNat < y.toNat ∨ (x.toNat = y.toNat ∧ nats xs < nats ys)) := by
      show (x.toNat :: nats xs < y.toNat :: nats ys) ↔ _
      exact List.cons_lt_cons_iff
    rw [show decide (nats (x :: xs) < nats (y :: ys)) = (decide (x.toNat < y.toNat) || (decide (x.toNat = y.toNat) && decide (nats xs < nats ys))) from by rw [Bool.eq_iff_iff]; simp [e]]
    unfold Builtin.Bytes.order
    by_cases h1 : x < y
    · rw [if_pos h1]
      have : x.toNat < y.toNat := UInt8.lt_iff_toNat_lt.mp h1
      simp [this]
    · rw [if_neg h1]
      have n1 : ¬ x.toNat < y.toNat := fun q => h1 (UInt8.lt_iff_toNat_lt.mpr q)
      by_cases h2 : x > y
      · rw [if_pos h2]
        have n2 : y.toNat < x.toNat := UInt8.lt_iff_toNat_lt.mp h2
        have n3 : x.toNat ≠ y.toNat := by omega
        simp [n1, n3]
      · rw [if_neg h2]
        have n2 : ¬ y.toNat < x.toNat := fun q => h2 (UInt8.lt_iff_toNat_lt.mpr q)
        have n3 : x.toNat = y.toNat := by omega
        rw [ih]
        simp [n3]
@[reducible] noncomputable def bytesOrd : PyProof.Rows.KeyKind where
  α := List Nat
  blt a b := decide (a < b)
  irrefl a := by simp
  trans a b c h1 h2 := by simp only [decide_eq_true_eq] at *; exact List.lt_trans h1 h2
  negTrans a b c h := by
    simp only [decide_eq_true_eq] at *
    by_cases hab : a < b
    · exact .inl hab
    · exact .inr (List.lt_of_le_of_lt (List.not_lt.mp hab) h)
  total a b h1 h2 := by simp only [decide_eq_false_iff_not] at *; exact List.le_antisymm (List.not_lt.mp h2) (List.not_lt.mp h1)
  keyOf v := match v with | .bytes x _ => some (nats x.toList) | _ => none
  dflt := []
section
variable {prog : Program} {w : World} {A : Around} {E : Value → Shared → Prop} {s : Shared}
theorem call_bytes_lt {a b : Array UInt8} {t u : Tok} {Q : Value → Shared → Prop} (h : Q (.bool (decide (nats a.toList < nats b.toList))) s) :
    wpAny (model prog w) A (call (.builtin "bytes.__lt__") [.bytes a t, .bytes b u]) Q E s := by
  refine wpAny_call_entry SF.slot_bytes_lt (typeIs_bytes s a t) SF.entry_bytes_lt ?_ (SF.args_bytes_lt _ _)
  show wpAny _ _ (isInstance (.bytes b u) (.type "bytes") >>= fun r => _) _ E s
  refine wpAny_bind (wpAny_isInstance (typeIs_bytes s b u) F.sub_bytes_bytes ?_)
  exact wpAny_pure ⟨_, rfl, by rw [← order_lt] at h; exact h⟩
theorem oneLt_bytes {a b : Array UInt8} {t u : Tok} {Q : Bool → Shared → Prop} (h : Q (decide (nats a.toList < nats b.toList)) s) : wpAny (model prog w) A (oneLt' true (.bytes a t) (.bytes b u)) Q E s := by
  rw [oneLt'_eq]
  simp only [if_true]
  refine wpAny_bind (wpAny_cRoomFor_byValue rfl ?_)
  refine wpAny_bind (wpAny_callSpecialIfBound?_slot (typeIs_bytes s a t) SF.slot_bytes_lt (call_bytes_lt ?_))
  exact wpAny_truthy_bool h
end
theorem bytesOrd_oneLt : bytesOrd.OneLt := by
  intro prog w A E s x y a b Q ha hb h
  cases x <;> simp only [bytesOrd, reduceCtorEq, Option.some.injEq] at ha
  cases y <;> simp only [bytesOrd, reduceCtorEq, Option.some.injEq] at hb
  cases ha; cases hb
  exact oneLt_bytes h
noncomputable def bytesOf : Value → Bts
  | .bytes x _ => x.toList
  | _ => []
theorem BytesAre.all {vs : List Value} {ks : List Bts} (h : BytesAre vs ks) : ∀ v, v ∈ vs → ∃ x t, v = .bytes x t := by
  induction h with
  | nil => intro v hv; simp at hv
  | cons p t _ ih =>
    intro v hv
    rcases List.mem_cons.mp hv with rfl | hv
    · exact ⟨_, _, rfl⟩
    · exact ih v hv
theorem BytesAre.map {vs : List Value} {ks : List Bts} (h : BytesAre vs ks) : vs.map bytesOf = ks := by
  induction h with
  | nil => rfl
  | cons p t _ ih => rw [List.map_cons, ih]; simp [bytesOf]
theorem bytesAre_map : ∀ (vs : List Value), (∀ v, v ∈ vs → ∃ x t, v = .bytes x t) → BytesAre vs (vs.map bytesOf)
  | [], _ => .nil
  | v :: vs, h => by
    obtain ⟨x, t, rfl⟩ := h v (List.mem_cons_self ..)
    have := bytesAre_map vs fun u hu => h u (List.mem_cons_of_mem _ hu)
    exact BytesAre.cons x.toList t this
theorem bytes_keysOf {vs : List Value} {ks : List Bts} (h : BytesAre vs ks) : PyProof.Rows.KeysOf bytesOrd (pairsOf vs) := by
  intro p hp
  rw [pairsOf_toList] at hp
  obtain ⟨x, t, e⟩ := h.all _ (mem_zip_self hp).2
  exact ⟨nats x.toList, by rw [e]⟩
theorem KK_bytes {xs : Array Keyed} {i : Nat} (hi : i < xs.size) {x : Array UInt8} {t : Tok} {q : Value} (hx : xs[i] = (.bytes x t, q)) : KK bytesOrd xs i = nats x.toList := by
  unfold KK; rw [getElem?_pos xs i hi, hx]; rfl
theorem mapM_first_bytes {vs : List Value} {ks : List Bts} (h : BytesAre vs ks) : vs.mapM firstOfTuple' = pure (vs.map fun _ => none) := by
  induction h with
  | nil => simp
  | cons p t _ ih => rw [List.mapM_cons, show firstOfTuple' (.bytes p.toArray t) = pure none from rfl, ih]; simp
theorem mapM_typeOf_bytes {vs : List Value} {ks : List Bts} (h : BytesAre vs ks) : vs.mapM typeOf = pure (vs.map fun _ => Value.type "bytes") := by
  induction h with
  | nil => simp
  | cons p t _ ih =>
    rw [List.mapM_cons, ih]
    show (pure (Value.type "bytes") >>= fun b => pure _ >>= fun bs => pure (b :: bs)) = _
    simp
theorem keyKind_bytes {v₁ v₂ : Value} {vs : List Value} {ks : List Bts} (h : BytesAre (v₁ :: v₂ :: vs) ks) : keyKind' (v₁ :: v₂ :: vs).toArray = pure oneType' := by
  rw [keyKind'_eq, List.mapM_toArray, mapM_first_bytes h]
  simp only [map_pure, pure_bind]
  rw [if_neg (by simp), if_neg (by simp)]
  rw [oneTypeOnly'_eq, List.mapM_toArray, mapM_typeOf_bytes h]
  simp only [map_pure, pure_bind]
  have hall : ((List.map (fun _ => Value.type "bytes") (v₁ :: v₂ :: vs)).toArray.all fun x => x == Value.type "bytes") = true := by
    simp only [List.all_toArray, List.all_map, List.all_eq_true]
    intro _ _
    rfl
  have h0 : (List.map (fun _ => Value.type "bytes") (v₁ :: v₂ :: vs)).toArray[0]? = some (Value.type "bytes") := by simp
  rw [h0]
  simp only [hall, if_true, pure_bind, Option.isSome_some]
noncomputable def SortedB (ks : List Bts) : Prop := ks.Pairwise fun a b => ¬ nats b < nats a
theorem sortedB_unique {a b : List Bts} (h : a.Perm b) (ha : SortedB a) (hb : SortedB b) : a = b :=
  h.eq_of_pairwise (fun x y _ _ h1 h2 => nats_inj (List.le_antisymm (List.not_lt.mp h1) (List.not_lt.mp h2))) ha hb
theorem sorted_out_bytes {vs : List Value} {ks : List Bts} (hS : BytesAre vs ks) {xs : Array Keyed} (hp : xs.Perm (pairsOf vs)) (hs : SortedToK bytesOrd xs (pairsOf vs).size) :
    ∃ ks', BytesAre (xs.map (·.2)).toList ks' ∧ ks'.Perm ks ∧ SortedB ks' := by
  have hl : xs.toList.Perm (vs.zip vs) := by rw [← pairsOf_toList]; exact Array.perm_iff_toList_perm.mp hp
  have hmem : ∀ p, p ∈ xs.toList → p.1 = p.2 ∧ p.1 ∈ vs := fun p hp' => mem_zip_self (hl.mem_iff.mp hp')
  refine ⟨xs.toList.map (fun p => bytesOf p.1), ?_, ?_, ?_⟩
  · have e : (xs.map (·.2)).toList = xs.toList.map (·.1) := by
      rw [Array.toList_map]; exact List.map_congr_left fun p hp' => (hmem p hp').1.symm
    rw [e]
    have h1 := bytesAre_map (xs.toList.map (·.1)) (by
      intro v hv
      obtain ⟨p, hp', rfl⟩ := List.mem_map.mp hv
      exact hS.all _ (hmem p hp').2)
    rwa [List.map_map] at h1
  · have h1 := hl.map (fun p => bytesOf p.1)
    have e2 : (vs.zip vs).map (fun p => bytesOf p.1) = ks := by
      have : (vs.zip vs).map (fun p => bytesOf p.1) = ((vs.zip vs).map Prod.fst).map bytesOf := by rw [List.map_map]; rfl
      rw [this, List.map_fst_zip (Nat.le_refl _), hS.map]
    rwa [e2] at h1
  · unfold SortedB
    rw [List.pairwise_iff_getElem]
    intro i j hi hj hij
    have hi' : i < xs.size := by simpa using hi
    have hj' : j < xs.size := by simpa using hj
    have h1 := hs i j (Nat.le_of_lt hij) (by rw [← hp.size_eq]; exact hj')
    obtain ⟨x, t, ex⟩ := hS.all _ (hmem xs[i] (by simp)).2
    obtain ⟨y, u, ey⟩ := hS.all _ (hmem xs[j] (by simp)).2
    rw [KK_bytes hi' (x := x) (t := t) (q := xs[i].2) (Prod.ext ex rfl), KK_bytes hj' (x := y) (t := u) (q := xs[j].2) (Prod.ext ey rfl)] at h1
    change decide (nats y.toList < nats x.toList) = false at h1
    simp only [List.getElem_map, Array.getElem_toList]
    rw [show bytesOf xs[i].1 = x.toList by rw [ex]; rfl, show bytesOf xs[j].1 = y.toList by rw [ey]; rfl]
    simpa using h1
section
variable {w : World} {A : Around} {E : Value → Shared → Prop} {s : Shared} {h₀ : Heap} {L : Addr} {m : Str → Option Value} {news : List (Addr × Obj)}
theorem sort_tail {vs : List Value} {ks : List Bts} {Q : Value → Shared → Prop} (F : Fr h₀ L s.heap m) (N : News h₀ L s.heap news) (hS : BytesAre vs ks) (h64 : vs.length < 64)
    (h : ∀ h' D vs' ks' e, Fr h₀ L h' m → News h₀ L h' ((D, seqObj "list" vs'.toArray e) :: news) → (∀ p ∈ news, p.1 < D) → BytesAre vs' ks' → ks'.Perm ks → SortedB ks' → Q (.ref D) { s with heap := h' }) :
    wpAny (model PG w) A.in1 (newList vs >>= fun l => holding [l] (call (.builtin "list.sort") [l]) >>= fun _ => ret l) (fun fin s' => ∃ v, fin = .done (.ret v) ∧ Q v s') E s := by
  refine wpAny_bind (wpAny_newList ?_ (by rw [sizeLine_eq]; omega))
  have hoL : (s.heap.push (seqObj "list" vs.toArray 0)).get? s.heap.objs.size = some (seqObj "list" vs.toArray 0) := Heap.get?_push_size _ rfl
  refine wpAny_bind (wpAny_holding (wpAny_call_entry slot_list_sort ⟨_, hoL, rfl⟩ entry_list_sort (list_sort_treeK bytesOrd_oneLt hoL (bytes_keysOf hS) (fun v₁ v₂ rest e => keyKind_bytes (by rw [← e]; exact hS)) h64 fun st' a1 a2 => ⟨_, rfl, ?_⟩) (args_list_sort _)))
  obtain ⟨ks', x1, x2, x3⟩ := sorted_out_bytes hS a1 a2
  obtain ⟨e, he⟩ := sortedHeap_at hoL (out := (arrOf st').map (·.2))
  have keep : ∀ b o, s.heap.get? b = some o → (sortedHeap (s.heap.push (seqObj "list" vs.toArray 0)) s.heap.objs.size vs ((arrOf st').map (·.2))).get? b = some o := fun b o q => by
    have hlt := Heap.lt_size q
    have q1 : (s.heap.push (seqObj "list" vs.toArray 0)).get? b = some o := Heap.get?_push_of_some _ q
    rw [sortedHeap_old (Nat.ne_of_lt hlt) (Heap.lt_size q1)]
    exact q1
  exact wpAny_pure ⟨_, rfl, h _ _ _ ks' e (F.keeps keep) (news_more F (news_keepAll N keep) he (fresh_size _)) (fun p hp => Heap.lt_size (N p hp).1) x1 x2 x3⟩
end
end
example : ∀ w A s Q E, TZ w A s Q E → TZ w A s Q E := by intro w A s Q E h; w_top off; first | (walk1; fail) | exact h
section
theorem hide3n {h : Heap} {dg r dx b : Addr} (n : (hideAll h [dg, r, dx]).get? b = none) (h1 : dg ≠ b) (h2 : r ≠ b) (h3 : dx ≠ b) : h.get? b = none := by
  cases q : h.get? b with
  | none => rfl
  | some o =>
    rw [hideAll_get [dg, r, dx] q (by simp only [List.mem_cons, List.not_mem_nil, or_false, not_or]; exact ⟨Ne.symm h1, Ne.symm h2, Ne.symm h3⟩)] at n; cases n
section
variable {w : World} {A : Around} {E : Value → Shared → Prop} {s : Shared} {h₀ : Heap} {L d : Addr} {m : Str → Option Value} {news : List (Addr × Obj)} {o : Obj} {D : DD}
noncomputable abbrev viewObj (d : Addr) : Obj := { cls := .type "dict_keys", data := .fields #[.ref d] }
theorem bkeys {Q : Value → Shared → Prop} (F : Fr h₀ L s.heap m) (N : News h₀ L s.heap news) (hp : (d, o) ∈ news) (hB : BObj w o D) (lo : (d == sysModules) = false)
    (h : ∀ h' v, Fr h₀ L h' m → News h₀ L h' ((v, viewObj d) :: news) → (∀ p ∈ news, p.1 < v) → Q (.ref v) { s with heap := h' }) : wpAny (model PG w) A (call (.builtin "dict.keys") [.ref d]) Q E s := by
  obtain ⟨kvs, hd, hk⟩ := hB
  have hD := kda_dict N hp hd
  refine call_meetsIn PySem.F.slot_dict_keys hD.typeIs PySem.F.entry_dict_keys (PySem.F.args_dict_keys_1 _) (kdl_meets_keys (bytesKind PG w) d lo) ⟨⟨kvs, hD⟩, ?_⟩
  exact h _ _ (F.push _) (N.push F _) fun p hp => Heap.lt_size (N p hp).1
theorem bset_view {v : Addr} {Q : Value → Shared → Prop} (hh : A.handled = none) (F : Fr h₀ L s.heap m) (N : News h₀ L s.heap news) (hv : (v, viewObj d) ∈ news) (hp : (d, o) ∈ news) (hB : BObj w o D) (hz : D.length ≤ 100)
    (h : ∀ h' S oS tk, Fr h₀ L h' m → News h₀ L h' ((S, oS) :: news) → (∀ p ∈ news, p.1 < S) → SetB w oS (D.map (·.1)) → Q (.ref S) { s with heap := h', toks := tk }) : wpAny (model PG w) A (call (.type "set") [.ref v]) Q E s := by
  have hnd := hB.nodup
  obtain ⟨kvs, hd, hk⟩ := hB
  obtain ⟨ep, ha⟩ := KdkAt.of hd
  refine set_view hh ⟨_, (N _ hv).1, rfl, rfl⟩ (ha.dictAt (N _ hp).1) (by rw [hk.length]; omega) (by rw [hk.keys]; exact hnd) fun h' tk oS kk e hS => ?_
  refine h h' _ oS tk (F.keeps kk) (news_more F (news_keepAll N kk) e (fresh_size _)) (fun p hp => Heap.lt_size (N p hp).1) ?_
  rw [← hk.keys]; exact hS
theorem set_nilN {Q : Value → Shared → Prop} (F : Fr h₀ L s.heap m) (N : News h₀ L s.heap news) (h : ∀ h' S, Fr h₀ L h' m → News h₀ L h' ((S, newSetObj w) :: news) → (∀ p ∈ news, p.1 < S) → Q (.ref S) { s with heap := h' }) : wpAny (model PG w) A (call (.type "set") []) Q E s :=
  set_nil (h _ _ (F.push _) (N.push F _) fun p hp => Heap.lt_size (N p hp).1)
theorem addN {a : Addr} {oa : Obj} {u : Obj → List (Addr × Obj)} {ks : List Bts} {k : Bts} {t : Tok} {Q : Value → Shared → Prop} (F : Fr h₀ L s.heap m) (N : News h₀ L s.heap news) (U : UpdF a oa news u) (hS : SetB w oa ks) (hz : ks.length ≤ 100)
    (h : ∀ h' o', Fr h₀ L h' m → News h₀ L h' (u o') → SetB w o' (if k ∈ ks then ks else ks ++ [k]) → Q .none { s with heap := h', toks := s.toks + 1 }) : wpAny (model PG w) A (call (.builtin "set.add") [.ref a, .bytes k.toArray t]) Q E s := by
  obtain ⟨own, rest, rfl, hg, h1, h2⟩ := U.split
  have hm := N (a, oa) (List.mem_append_right _ (.head _))
  refine call_add hm.1 hS (by unfold scanBound; omega) fun h' o' hs ho' hS' => ?_
  exact h h' o' (F.change hs hm.2.1 hm.2.2) (hg o' ▸ N.setIn h1 h2 hs ho') hS'
theorem addM {a : Addr} {oa : Obj} {ks : List Bts} {pl : Sem Bool} {Q : Value × List Value → Shared → Prop} (N : News h₀ L s.heap news) (hm : (a, oa) ∈ news) (hS : SetB w oa ks) (h : Q (.builtin "set.add", [.ref a]) s) : wpAny (model PG w) A (getMethod (.ref a) "add" pl) Q E s := meth_add (N _ hm).1 hS h
theorem for_walks {env : Env} {Q : Flow → Shared → Prop} {target : PySem.Expr} {body : List Stmt} {it : Addr} {fp wr : List Addr} {n : Nat} {P : Nat → Value → Prop} {St : Nat → Heap → Prop} (W : Walks PG w A it fp wr n P St)
    (hgo : ∀ v (s' : Shared) (Q' : Unit → Shared → Prop) (E' : Value → Shared → Prop), Q' () s' → wpAny (model PG w) A (letOwnedTupleGo target (.ref it) v) Q' E' s')
    (J : Nat → Shared → Prop) (h0 : J 0 s) (look : ∀ i s', J i s' → St i s'.heap)
    (step : ∀ (Q' : Flow → Shared → Prop) (E' : Value → Shared → Prop) i v s' h' tk, i < n → P i v → J i s' → St (i + 1) h' → (∀ b o, b ∉ wr → s'.heap.get? b = some o → h'.get? b = some o) →
      wpAny (model PG w) A (assign target env v) (fun _ s₃ => wpAny (model PG w) A (execs body env) (TurnTo Q' (J (i + 1))) E' s₃) E' { s' with heap := h', toks := tk })
    (done : ∀ s' h' tk, J n s' → (∀ b o, b ∉ wr → s'.heap.get? b = some o → h'.get? b = some o) → Q .next { s' with heap := h', toks := tk }) : ForIt PG w A env target body Q E (.ref it) s := by
  refine ⟨n + 1, fun k s' => ∃ i, J i s' ∧ i ≤ n ∧ k = n + 1 - i, ⟨0, h0, Nat.zero_le _, rfl⟩, ?_⟩
  rintro k s' ⟨i, hJ, hi, rfl⟩
  have hst := look i s' hJ
  by_cases hlt : i < n
  · refine W.item i s' _ _ hlt hst fun v h' tk hP hst' hk => hgo _ _ _ _ (wpAny_mono (step Q E i v s' h' tk hlt hP hJ hst' hk) (fun _ s₃ h₃ => wpAny_mono h₃ (fun f s₄ h₄ => ?_) fun _ _ e => e) fun _ _ e => e)
    have tr : J (i + 1) s₄ → ∃ m, m < n + 1 - i ∧ ∃ i, J i s₄ ∧ i ≤ n ∧ m = n + 1 - i := fun q => ⟨n + 1 - (i + 1), by omega, i + 1, q, hlt, rfl⟩
    cases f with
    | next => exact tr h₄
    | cont => exact tr h₄
    | brk => exact h₄
    | ret v => exact h₄
  · have hin : i = n := by omega
    subst hin
    exact W.done s' _ _ hst fun h' tk hk => done s' h' tk hJ hk
end
def gK1.siteTag : Unit := ()
open gK1
section
variable {p9 : Program} {lo9 : List Str} {w : World} {A : Around} {s : Shared} {base : Heap} {mg mb : Str → Option Value} {mean : ExcName → Option Value} {Q E : Value → Shared → Prop}
example : True := by
  k_with "gK1 call builtin:dict.keys" => (k_here; k_dflt (refine' bkeys ?bF ?bN ?bp ?bB ?lo ?_; (case bF => k_asm); (case bN => k_asm); (case bp => k_mem); (case bB => k_asm); (case lo => k_asm); k_whole); intro h' v' F' N' l1; (try k_lt l1); (try k_sweep))
  k_with "gK1 call type:set" => (k_here; (with_reducible show wpAny _ _ (call (Value.type _) [Value.ref _]) _ _ _); k_dflt (refine' bset_view ?bh ?bF ?bN ?bv ?bp ?bB ?bz ?_; (case bh => k_asm); (case bF => k_asm); (case bN => k_asm); (case bv => k_mem); (case bp => k_mem); (case bB => k_asm); (case bz => k_asm); k_whole); intro h' S' oS' tk' F' N' l1 hS'; (try k_lt l1); (try k_sweep))
  k_with "gK1 call type:set" => (k_here; (with_reducible show wpAny _ _ (call (Value.type _) []) _ _ _); k_dflt (refine' set_nilN ?bF ?bN ?_; (case bF => k_asm); (case bN => k_asm); k_whole); intro h' S' F' N' l1; (try k_lt l1); (try k_sweep))
  k_with "gK1 call type:set nil nil" => (k_here; k_dflt (refine' set_nilN ?bF ?bN ?_; (case bF => k_asm); (case bN => k_asm); k_whole); intro h' S' F' N' l1; (try k_lt l1); (try k_sweep))
  k_with "gK1 getMethod ref" => (k_here; (with_reducible show wpAny _ _ (getMethod (Value.ref _) (PySem.Str.ofString "add") _) _ _ _); k_dflt (refine' addM ?bN ?bp ?bS ?_; (case bN => k_asm); (case bp => k_mem); (case bS => k_asm); k_whole))
  k_with "gK1 call builtin:set.add" => (k_here; k_dflt (refine' addN ?bF ?bN ?bU ?bS ?bz ?_; (case bF => k_asm); (case bN => k_asm); (case bU => k_updF); (case bS => k_asm); (case bz => k_asm); k_whole); intro h' o' F' N' hS'; (try dsimp only at N'); (try k_sweep))
  trivial
set_option maxHeartbeats 4000000 in
theorem spec_allkeys {fs : List Env} {r dg : Addr} {D : DD} (X : (hd.heap_1 w.params).In base) (T : Top p9 lo9 mean mg mb base) (hb : KeepAll base s.heap) (hroom : A.depth + 4 < recursionLimit) (hun : A.units + 40 < cLine) (hhd : A.handled = none) (hR : RefsAt w base fs s.heap r dg D) (hV : ValsOk D) (hD : D.length ≤ 100)
    (h : ∀ S oS h' tk', KeepAll s.heap h' → h'.get? S = some oS → s.heap.get? S = none → SetB w oS (D.map (·.1)) → Q (.ref S) { s with heap := h', toks := tk' }) :
    wpAny (model PG w) A (call (.ref 229) [.ref r]) Q E s := by
  refine wpAny_call ?_
  refine' enter_def (binds := [(Str.ofString "self", Value.ref r)]) (X.keeps hb) (T.keeps hb) ?k6 ?k7 ?k8 ?k9 ?kB ?_ ?c2 ?c3 ?c4 ?c5
  case k6 => k_is
  case k7 => k_is
  case k8 => omega
  case k9 => exact BindsTo.of_eq rfl
  case kB => exact locs rfl
  case c2 => exact rfl
  case c3 => exact rfl
  case c4 => exact rfl
  case c5 => decide
  intro L' h' hL F'
  obtain ⟨dx, dp, t1, t2, o, F1, N1, X1, T1, hB, lo, n1, n2, n3, e1, e2, e3, hbg, sp⟩ := hR.open F' X T hb
  clear F'
  (try dsimp only)
  (try k_fold)
  k_steps
  rename _ ∧ _ => lt9
  exact h _ _ _ _ (by ktr_rel) (News.get (by k_asm) (by k_mem)) (hide3 (News.fresh (by k_asm) (by k_mem)) lt9.2.1 lt9.2.2.1 lt9.2.2.2) (by k_asm)
example : True := by
  k_with "gK1 call ref" => (k_here; (try dsimp only [List.nil_append, List.cons_append, List.append_nil]); (with_reducible show wpAny _ _ (call (Value.ref 229) _) _ _ _); k_dflt (refine' spec_allkeys ?sX ?sT ?sb ?sr ?su ?sh ?sR ?sV ?sD ?_; (case sb => exact keep_base (by k_asm) (by k_asm)); (case sX => k_asm); (case sT => k_asm); (case sr => k_room); (case su => k_units); (case sh => k_asm); (case sR => ktr_unf); (case sV => k_asm); (case sD => k_asm)); (all_goals first | ((with_reducible intro S' oS' h' tk' kk' eL' nL' bS'); (k_dflt (have neL := allNe (by k_asm) (by k_asm) nL')); (simp only [AllNe, and_true] at neL); (k_dflt (have N' := news_more (by k_asm) (news_keepAll (by k_asm) kk') eL' nL')); (k_dflt (have F' := fr_keepAll (by k_asm) kk')); (try k_sweep))))
  trivial
set_option maxHeartbeats 4000000 in
theorem spec_keys {fs : List Env} {r dg : Addr} {D : DD} (X : (hd.heap_1 w.params).In base) (T : Top p9 lo9 mean mg mb base) (hb : KeepAll base s.heap) (hroom : A.depth + 8 < recursionLimit) (hun : A.units + 80 < cLine) (hhd : A.handled = none) (hR : RefsAt w base fs s.heap r dg D) (hV : ValsOk D) (hD : D.length ≤ 100)
    (h : ∀ S oS h' tk', KeepAll s.heap h' → h'.get? S = some oS → s.heap.get? S = none → SetB w oS (D.map (·.1)) → Q (.ref S) { s with heap := h', toks := tk' }) :
    wpAny (model PG w) A (call (.ref 123) [.ref r]) Q E s := by
  refine wpAny_call ?_
  refine' enter_def (binds := [(Str.ofString "self", Value.ref r), (Str.ofString "base", Value.none)]) (X.keeps hb) (T.keeps hb) ?k6 ?k7 ?k8 ?k9 ?kB ?_ ?c2 ?c3 ?c4 ?c5
  case k6 => k_is
  case k7 => k_is
  case k8 => omega
  case k9 => first | exact binds_K (X.keeps hb) rfl (by k_is) rfl rfl rfl | exact BindsTo.of_eq rfl
  case kB => exact locs rfl
  case c2 => exact rfl
  case c3 => exact rfl
  case c4 => exact rfl
  case c5 => decide
  intro L' h' hL F'
  obtain ⟨dx, dp, t1, t2, o, F1, N1, X1, T1, hB, lo, n1, n2, n3, e1, e2, e3, hbg, sp⟩ := hR.open F' X T hb
  clear F'
  (try dsimp only)
  (try k_fold)
  k_steps
  rename _ ∧ _ => ne9
  exact h _ _ _ _ (by ktr_rel) (News.get (by k_asm) (by k_mem)) (hide3n (News.fresh (by k_asm) (by k_mem)) ne9.1 ne9.2.1 ne9.2.2) (by k_asm)
end
end
example : ∀ w A s Q E, TZ w A s Q E → TZ w A s Q E := by intro w A s Q E h; w_top off; first | (walk1; fail) | exact h
section
section
variable {w : World} {A : Around} {E : Value → Shared → Prop} {s : Shared} {h₀ : Heap} {L : Addr} {m : Str → Option Value} {news : List (Addr × Obj)}
theorem set_hint {r : Addr} {Q : Bool → Shared → Prop} (hT : s.TypeIs (.ref r) "set") (h : Q false s) : wpAny (model PG w) A (Builtin.List.listLengthHint (.ref r)) Q E s := by
  unfold Builtin.List.listLengthHint
  refine wpAny_bind (wpAny_specialOf hT PySem.F.slot_set_len.lookup ?_)
  generalize hid : ("set.__len__" : String) = id0
  wp_delta
  rw [show splitId id0 = some ("set", "__len__") from by subst hid; decide +kernel]
  subst hid
  refine wpAny_bind (wpAny_isInstance (T := "set") (b := true) hT (by rw [isSubtype_type]; kernel_rfl) ?_)
  refine wpAny_ite_split (fun hab => absurd hab (by decide)) (fun _ => ?_)
  refine wpAny_ite_split (fun _ => ?_) (fun hab => absurd (by decide +kernel) hab)
  refine wpAny_bind (wpAny_typeOf hT ?_)
  exact wpAny_pure h
theorem items_bytes : ∀ {ks : List Bts} {acc : Array Value}, ItemsOf (fun i v => ∃ (k : Bts) (t : Tok), ks[i]? = some k ∧ v = Value.bytes k.toArray t) acc ks.length → BytesAre acc.toList ks := by
  intro ks acc h
  obtain ⟨h1, h2⟩ := h
  have h2' : ∀ j v, acc.toList[j]? = some v → ∃ (k : Bts) (t : Tok), ks[j]? = some k ∧ v = Value.bytes k.toArray t := fun j v e => h2 j v (by rw [← Array.getElem?_toList]; exact e)
  rw [← Array.length_toList] at h1
  generalize acc.toList = l at h1 h2'
  clear h2 acc
  induction ks generalizing l with
  | nil => obtain rfl := List.eq_nil_of_length_eq_zero h1; exact .nil
  | cons k ks ih =>
    cases l with
    | nil => simp at h1
    | cons v l =>
      obtain ⟨k', t, e1, e2⟩ := h2' 0 v rfl
      cases Option.some.inj e1
      rw [e2]
      exact .cons _ t (ih (l := l) (by simpa using h1) fun j u e => h2' (j + 1) u e)
theorem set_collect {S : Addr} {o : Obj} {ks : List Bts} {R : List Value → Shared → Prop} (hh : A.handled = none) (ho : s.heap.get? S = some o) (hB : SetB w o ks) (hz : ks.length ≤ 1000)
    (h : ∀ (h' : Heap) d' tk vs ks', KeepAll s.heap h' → ks'.Perm ks → BytesAre vs ks' → R vs { s with heap := h', drawn := d', toks := tk }) :
    wpAny (model PG w) A (collect (.ref S)) R E s := by
  have hlt := Heap.lt_size ho
  have hty : s.TypeIs (.ref S) "set" := ⟨o, ho, hB.1.1⟩
  unfold collect
  refine wpAny_bind (wpAny_runValue (codeAny_builtin entry_proto_collect' ?_))
  rw [Around.under_plainId PySem.F.plain_proto_collect _]
  show wpAny _ A.in1 (newList [] >>= fun l => again (.builtin "list.__iadd__" ⟨[l, .ref S], []⟩)) _ _ s
  refine wpAny_bind (wpAny_newObj_type ?_)
  refine wpAny_pure ⟨plainId_quiet PySem.F.plain_list_iadd _, codeAny_builtin entry_list_iadd' ?_⟩
  rw [Around.under_plainId PySem.F.plain_list_iadd _]
  have ho₁ : (s.heap.push { cls := .type "list", data := .seq ([] : List Value).toArray }).get? S = some o := Heap.get?_push_of_some _ ho
  have hl₁ : (s.heap.push { cls := .type "list", data := .seq ([] : List Value).toArray }).get? s.heap.objs.size = some { cls := .type "list", data := .seq #[] } := Heap.get?_push_size _ rfl
  show wpAny _ A.in1 (Builtin.List.listExtendWith (.ref s.heap.objs.size) (.ref S) (.ref s.heap.objs.size)) _ _ _
  unfold Builtin.List.listExtendWith
  refine wpAny_bind (wpAny_typeOf (T := "set") ⟨o, ho₁, hB.1.1⟩ ?_)
  have h1 : Builtin.List.listSameRef (.ref s.heap.objs.size) (.ref S) = false := by simp [Builtin.List.listSameRef, Nat.ne_of_gt hlt]
  have n1 : (Value.type "set" == Value.type "list") = false := by decide
  have n2 : (Value.type "set" == Value.type "tuple") = false := by decide
  simp only [h1, n1, n2, Bool.or_false, Bool.false_eq_true, if_false]
  refine wpAny_bind (iter_set (s := { s with heap := s.heap.push { cls := .type "list", data := .seq ([] : List Value).toArray } }) ho₁ hB hz fun it T hp d' ks' hperm hk hit hTn hTo hTit hSit hle x0 => ?_)
  have hsz1 : s.heap.objs.size < (s.heap.push { cls := .type "list", data := .seq ([] : List Value).toArray }).objs.size := Heap.lt_size hl₁
  have hlit : s.heap.objs.size ≠ it := Nat.ne_of_lt (Nat.lt_of_lt_of_le hsz1 hle)
  have hlT : s.heap.objs.size ≠ T := by
    rcases hTn with rfl | e
    · exact Nat.ne_of_gt hlt
    · rw [e]; exact Nat.ne_of_lt hsz1
  have hSf : s.heap.objs.size ∉ [it, S, T] := by simp only [List.mem_cons, List.not_mem_nil, or_false, not_or]; exact ⟨hlit, Nat.ne_of_gt hlt, hlT⟩
  have W := set_walks (w := w) (A := A.in1) (ks := ks') (by simp [hh]) hTit hSit
  have key : ∀ (h : Heap) (c₁ tk : Nat), IsSetIter w h it S T ks' 0 → (∀ b o, b ≠ s.heap.objs.size → hp.get? b = some o → h.get? b = some o) → h.get? s.heap.objs.size = some { cls := .type "list", data := .seq #[] c₁ } →
      codeAny (model PG w) A (.builtin "list.extend.loop" ⟨[.ref s.heap.objs.size, .ref it, .ref s.heap.objs.size], []⟩) (fun (q : Result) (s' : Shared) => ∃ (h' : Heap) (tk : Nat) (acc' : Array Value) (c' : Nat), q = .ok (.ret (.ref s.heap.objs.size)) ∧ s' = { s with heap := h', drawn := d', toks := tk } ∧
      KeepAll s.heap h' ∧ h'.get? s.heap.objs.size = some { cls := .type "list", dict := none, data := .seq acc' c', slots := #[] } ∧ BytesAre acc'.toList ks') { s with heap := h, drawn := d', toks := tk } := by
    intro h c₁ tk hst hk2 hS₁
    refine codeAny_extend_loopS W.toS (Nat.le_trans (Nat.le_of_eq hperm.length_eq) (by rw [sizeLine_eq]; omega)) s.heap.objs.size hSf _ ks'.length 0 _ #[] c₁ rfl (Nat.zero_le _) hst hS₁ (ItemsOf.nil _) fun s' acc' c' hm hS' hacc => ?_
    refine ⟨s'.heap, s'.toks, acc', c', rfl, by rw [Moved.eq_with hm], fun b o2 e => hm.heap b o2 (fun hmem => ?_) (hk2 b o2 (Nat.ne_of_lt (Heap.lt_size e)) (hk _ _ (Heap.get?_push_of_some _ e))), hS', items_bytes hacc⟩
    rcases List.mem_cons.mp hmem with e' | hmem
    · exact absurd (Heap.lt_size e) (by rw [e']; exact Nat.lt_irrefl _)
    · exact absurd (Heap.lt_size e) (by rw [List.mem_singleton.mp hmem]; exact Nat.not_lt.mpr (Nat.le_of_lt (Nat.lt_of_lt_of_le hsz1 hle)))
  have hS₁ := hk _ _ hl₁
  refine wpAny_bind (wpAny_holding (set_hint ⟨o, hk _ _ ho₁, hB.1.1⟩ ?_))
  refine wpAny_ite_split (fun _ => ?_) (fun _ => wpAny_pure ⟨plainId_quiet PySem.F.plain_extend_loop _, codeAny_mono (key hp _ _ x0 (fun b o _ e => e) hS₁) ?_⟩)
  · refine wpAny_bind (wpAny_rule ?_)
    refine wpAny_bind ?_
    show wpAny _ _ (updateSeq s.heap.objs.size (·.push .none) >>= fun _ => updateSeq s.heap.objs.size (·.pop)) _ _ _
    refine wpAny_bind (wpAny_updateSeq hS₁ rfl ?_)
    have hS₂ := Heap.get?_update_self (Obj.mapSeq (·.push Value.none)) hS₁ rfl
    refine wpAny_updateSeq (hz := by seq_fits) hS₂ rfl ?_
    have hS₃ := Heap.get?_update_self (Obj.mapSeq (·.pop)) hS₂ rfl
    refine wpAny_pure ⟨plainId_quiet PySem.F.plain_extend_loop _, codeAny_mono (key _ _ _ ?_ (fun b o hb e => ?_) hS₃) ?_⟩
    · refine x0.at fun b hb o e => ?_
      have hbS : b ≠ s.heap.objs.size := fun h => hSf (h ▸ hb)
      exact (Heap.get?_update_other _ _ (Ne.symm hbS)).trans ((Heap.get?_update_other _ _ (Ne.symm hbS)).trans e)
    · exact (Heap.get?_update_other _ _ (Ne.symm hb)).trans ((Heap.get?_update_other _ _ (Ne.symm hb)).trans e)
    · rintro q s' ⟨h', tk, acc', c', rfl, rfl, k1, k2, k3⟩
      show wpAny _ A (load s.heap.objs.size >>= _) _ _ _
      refine wpAny_bind (wpAny_load k2 ?_)
      exact wpAny_pure (h h' d' tk _ ks' k1 hperm k3)
  · rintro q s' ⟨h', tk, acc', c', rfl, rfl, k1, k2, k3⟩
    show wpAny _ A (load s.heap.objs.size >>= _) _ _ _
    refine wpAny_bind (wpAny_load k2 ?_)
    exact wpAny_pure (h h' d' tk _ ks' k1 hperm k3)
end
section
variable {w : World} {A : Around} {E : Value → Shared → Prop} {s : Shared} {h₀ : Heap} {L : Addr} {m : Str → Option Value} {news : List (Addr × Obj)} {Q : Value → Shared → Prop}
theorem sorted_set {S : Addr} {oS : Obj} {ks : List Bts} (hh : A.handled = none) (F : Fr h₀ L s.heap m) (N : News h₀ L s.heap news) (hS : (S, oS) ∈ news) (hB : SetB w oS ks) (hz : ks.length < 64)
    (h : ∀ h' d' tk D vs' ks' e, Fr h₀ L h' m → News h₀ L h' ((D, seqObj "list" vs'.toArray e) :: news) → (∀ p ∈ news, p.1 < D) → BytesAre vs' ks' → ks'.Perm ks → SortedB ks' → Q (.ref D) { s with heap := h', drawn := d', toks := tk }) :
    wpAny (model PG w) A (call (.builtin "sorted") [.ref S]) Q E s := by
  refine call_function_entry kind_sorted plain_sorted entry_sorted (args_sorted1 _) ?_
  unfold Builtin.«sorted»
  refine wpAny_bind (m := checkCount "sorted" 1 1 _) (wpAny_pure ?_)
  refine wpAny_bind (set_collect (by simp [hh]) (N _ hS).1 hB (by omega) fun h1 d' tk vs ks1 k1 hp hb => ?_)
  have hl : vs.length < 64 := by rw [hb.length, hp.length_eq]; exact hz
  refine sort_tail (s := { s with heap := h1, drawn := d', toks := tk }) (F.keeps k1) (news_keepAll N k1) hb hl fun h2 D vs' ks' e a1 a2 a3 a4 a5 a6 => ?_
  exact h h2 d' tk D vs' ks' e a1 a2 a3 a4 (a5.trans hp) a6
theorem sorted_view {v d : Addr} {o : Obj} {D : DD} (hh : A.handled = none) (F : Fr h₀ L s.heap m) (N : News h₀ L s.heap news) (hv : (v, viewObj d) ∈ news) (hd : (d, o) ∈ news) (hB : BObj w o D) (hz : D.length < 64)
    (h : ∀ h' d' tk D1 vs' ks' e, Fr h₀ L h' m → News h₀ L h' ((D1, seqObj "list" vs'.toArray e) :: news) → (∀ p ∈ news, p.1 < D1) → BytesAre vs' ks' → ks'.Perm (D.map (·.1)) → SortedB ks' → Q (.ref D1) { s with heap := h', drawn := d', toks := tk }) :
    wpAny (model PG w) A (call (.builtin "sorted") [.ref v]) Q E s := by
  obtain ⟨kvs, hd1, hk⟩ := hB
  obtain ⟨ep, ha⟩ := KdkAt.of hd1
  refine call_function_entry kind_sorted plain_sorted entry_sorted (args_sorted1 _) ?_
  unfold Builtin.«sorted»
  refine wpAny_bind (m := checkCount "sorted" 1 1 _) (wpAny_pure ?_)
  have hlen := hk.length
  refine wpAny_bind (kdu_collect (A := A.in1) (kdl_keys (knd := bytesKind PG w) (r := v) (d := d) (kvs := kvs) (ep := ep)) (by simp [hh]) ⟨⟨_, (N _ hv).1, rfl, rfl⟩, ha.dictAt (N _ hd).1⟩ (by rw [sizeLine_eq]; omega) fun h1 tk acc k1 hacc => ?_)
  have hb : BytesAre acc.toList (D.map (·.1)) := by
    rw [← hk.keys]
    refine items_bytes (ks := kvs.map (·.1)) ⟨by rw [List.length_map]; exact hacc.1, fun j u e => ?_⟩
    obtain ⟨k, x, e1, e2⟩ := hacc.2 j u e
    obtain ⟨t, rfl⟩ := isBytes_shape e2
    exact ⟨k, t, by rw [List.getElem?_map, e1]; rfl, rfl⟩
  have hl : acc.toList.length < 64 := by rw [hb.length, List.length_map]; exact hz
  exact sort_tail (s := { s with heap := h1, toks := tk }) (F.keeps k1) (news_keepAll N k1) hb hl fun h2 D1 vs' ks' e a1 a2 a3 a4 a5 a6 => h h2 _ tk D1 vs' ks' e a1 a2 a3 a4 a5 a6
theorem sorted_list {l : Addr} {vs : List Value} {ks : List Bts} (F : Fr h₀ L s.heap m) (N : News h₀ L s.heap news) (hl : s.heap.IsList l vs.toArray) (hb : BytesAre vs ks) (hz : vs.length < 64)
    (h : ∀ h' d' tk D1 vs' ks' e, Fr h₀ L h' m → News h₀ L h' ((D1, seqObj "list" vs'.toArray e) :: news) → (∀ p ∈ news, p.1 < D1) → BytesAre vs' ks' → ks'.Perm ks → SortedB ks' → Q (.ref D1) { s with heap := h', drawn := d', toks := tk }) :
    wpAny (model PG w) A (call (.builtin "sorted") [.ref l]) Q E s := by
  refine call_function_entry kind_sorted plain_sorted entry_sorted (args_sorted1 _) ?_
  unfold Builtin.«sorted»
  refine wpAny_bind (m := checkCount "sorted" 1 1 _) (wpAny_pure ?_)
  refine wpAny_bind (collect_list hl ?_ (by rw [sizeLine_eq]; omega))
  have keep : ∀ b o, s.heap.get? b = some o → ((s.heap.push (seqObj "list" #[] 0)).update s.heap.objs.size (Obj.mapSeq (· ++ vs.toArray))).get? b = some o := fun b o q => by
    have hlt : b < s.heap.objs.size := Heap.lt_size q
    rw [Heap.get?_update_ne _ _ _ _ (Nat.ne_of_lt hlt), Heap.get?_push_ne _ _ _ (Nat.ne_of_lt hlt)]
    exact q
  exact sort_tail (s := { s with heap := (s.heap.push (seqObj "list" #[] 0)).update s.heap.objs.size (Obj.mapSeq (· ++ vs.toArray)) }) (F.keeps keep) (news_keepAll N keep) hb hz fun h2 D1 vs' ks' e a1 a2 a3 a4 a5 a6 => h h2 _ _ D1 vs' ks' e a1 a2 a3 a4 a5 a6
end
end
example : ∀ w A s Q E, TZ w A s Q E → TZ w A s Q E := by intro w A s Q E h; w_top off; first | (walk1; fail) | exact h
section
theorem eqAt_bytes3 {A : Around} {s : Shared} {k : Bts} {t u : Tok} : SeqAt.EqAt A s (.bytes k.toArray t) (.bytes k.toArray u) true := fun prog w E Q h => eqBool_bytes (by simpa using h)
theorem BytesAre.getElem {vs us : List Value} {ks : List Bts} (h : BytesAre vs ks) (g : BytesAre us ks) {A : Around} {s : Shared} : ∀ j (h1 : j < vs.toArray.size) (h2 : j < us.toArray.size), SeqAt.EqAt A s vs.toArray[j] us.toArray[j] true := by
  intro j h1 h2
  obtain ⟨p, t, e1, e2⟩ := h.get (i := j) (v := vs.toArray[j]) (by simp)
  obtain ⟨q, u, e3, e4⟩ := g.get (i := j) (v := us.toArray[j]) (by simp)
  rw [e1] at e3
  cases Option.some.inj e3
  rw [e2, e4]
  exact eqAt_bytes3
theorem all_true (n : Nat) : (List.range n).all (fun _ => true) = true := by simp
section
variable {w : World} {A : Around} {E : Value → Shared → Prop} {s : Shared} {h₀ : Heap} {L : Addr} {m : Str → Option Value} {news : List (Addr × Obj)} {Q : Value → Shared → Prop}
theorem rcAt_lists {a b : Addr} {vs us : List Value} {ks : List Bts} (ha : s.heap.IsList a vs.toArray) (hb : s.heap.IsList b us.toArray) (hv : BytesAre vs ks) (hu : BytesAre us ks) (hn : A.units < cLine) : SeqAt.RcAt A s (.ref a) (.ref b) true := by
  have x := SeqAt.RcAt.lists (A := A) (e := fun _ => true) ha hb (by simp [hv.length, hu.length]) hn (fun j h1 h2 => hv.getElem hu j h1 h2)
  rwa [all_true] at x
theorem ne_lists {a b : Addr} {vs us : List Value} {ks : List Bts} (ha : s.heap.IsList a vs.toArray) (hb : s.heap.IsList b us.toArray) (hv : BytesAre vs ks) (hu : BytesAre us ks) (hn : A.units < cLine) (h : Q (.bool false) s) :
    wpAny (model PG w) A (compareOp .NotEq (.ref a) (.ref b)) Q E s := by
  have x := SeqAt.RcNeAt.lists (A := A) (e := fun _ => true) ha hb (by simp [hv.length, hu.length]) hn (fun j h1 h2 => hv.getElem hu j h1 h2)
  rw [all_true] at x
  exact x PG w E Q h
theorem ne_tuples {a b l l' : Addr} {v u : Value} {vs us : List Value} {ks : List Bts} {r : Option Bts} (ha : s.heap.IsTuple a #[.ref l, v]) (hb : s.heap.IsTuple b #[.ref l', u]) (hl : s.heap.IsList l vs.toArray) (hl' : s.heap.IsList l' us.toArray)
    (hv : BytesAre vs ks) (hu : BytesAre us ks) (rv : ResIs r v) (ru : ResIs r u) (hn : A.units + 2 < cLine) (h : Q (.bool false) s) :
    wpAny (model PG w) A (compareOp .NotEq (.ref a) (.ref b)) Q E s := by
  have x := SeqAt.RcNeAt.tuples (A := A) (e := fun _ => true) ha hb (by omega) (fun j h1 h2 => by
    match j, h1 with
    | 0, _ =>
      show SeqAt.EqAt A.in1 s (.ref l) (.ref l') true
      by_cases e : l = l'
      · subst e; exact SeqAt.EqAt.same _
      · exact SeqAt.EqAt.of_refs e (rcAt_lists hl hl' hv hu (by simp only [units_in1]; omega))
    | 1, _ =>
      show SeqAt.EqAt A.in1 s v u true
      cases r with
      | none => rw [show v = Value.none from rv, show u = Value.none from ru]; exact SeqAt.EqAt.same _
      | some x =>
        obtain ⟨t, rfl⟩ := rv
        obtain ⟨t', rfl⟩ := ru
        exact eqAt_bytes3)
  rw [all_true] at x
  exact x PG w E Q h
theorem hits_of {ka kb : List (Bts × Value)} {Da Db : DD} (h1 : KVs ka Da) (h2 : KVs kb Db) (hget : ∀ p ∈ Da, getB Db p.1 = some p.2) : KeqHits A s kb ka true := by
  induction h1 with
  | nil => exact .nil
  | @cons k v t kvs D _ ih =>
    rcases h2.at k with ⟨v', t', e1, e2⟩ | ⟨e1, _⟩
    · have := hget (k, v) (.head _)
      rw [e1] at this
      cases Option.some.inj this
      exact KeqHits.hit e2 eqAt_bytes3 (ih fun p hp => hget p (.tail _ hp))
    · have := hget (k, v) (.head _)
      rw [e1] at this
      cases this
theorem ne_dicts {a b : Addr} {oa ob : Obj} {Da Db : DD} (N : News h₀ L s.heap news) (pa : (a, oa) ∈ news) (pb : (b, ob) ∈ news) (ha : BObj w oa Da) (hb : BObj w ob Db) (la : (a == sysModules) = false) (lb : (b == sysModules) = false)
    (hlen : Da.length = Db.length) (hget : ∀ p ∈ Da, getB Db p.1 = some p.2) (hn : A.units < cLine) (h : Q (.bool false) s) :
    wpAny (model PG w) A (compareOp .NotEq (.ref a) (.ref b)) Q E s := by
  obtain ⟨ka, da, ea⟩ := ha
  obtain ⟨kb, db, eb⟩ := hb
  refine keq_ne la lb (kda_dict N pa da) (kda_dict N pb db) hn (fun _ => hits_of ea eb hget) ?_
  rw [ea.length, eb.length, hlen]
  simpa using h
end
theorem getB_self {D : DD} (hn : (D.map (·.1)).Nodup) : ∀ p ∈ D, getB D p.1 = some p.2 := by
  induction D with
  | nil => intro p hp; cases hp
  | cons q D ih =>
    intro p hp
    rcases List.mem_cons.mp hp with rfl | hp
    · simp [getB]
    · have hne : q.1 ≠ p.1 := fun e => (List.nodup_cons.mp hn).1 (by show q.1 ∈ _; rw [e]; exact List.mem_map_of_mem (f := (·.1)) hp)
      have := ih (List.nodup_cons.mp hn).2 p hp
      simpa [getB, hne] using this
theorem getB_perm {D D' : DD} (hp : D.Perm D') (hn : (D'.map (·.1)).Nodup) : ∀ p ∈ D, getB D' p.1 = some p.2 := fun p h => getB_self hn p (hp.mem_iff.mp h)
end
example : ∀ w A s Q E, TZ w A s Q E → TZ w A s Q E := by intro w A s Q E h; w_top off; first | (walk1; fail) | exact h
section
theorem codes_more {q : Str} {ps : Array Value} {codes : List (Addr × Obj)} {x : Addr × Obj} (h : CodesOk q ps codes) : CodesOk q ps (x :: codes) :=
  ⟨h.1, fun pos cv e => let ⟨c', oc, vs, t, a, b, c⟩ := h.2 pos cv e; ⟨c', oc, vs, t, a, .tail _ b, c⟩⟩
section
variable {w : World} {A : Around} {E Q : Value → Shared → Prop} {s : Shared} {I lD dp rr dx dh dg L f : Addr} {fo oI ol op oh og og0 oR oO oG oF oS : Obj} {t1 t2 : Tok} {D : DD} {ps ps3 ps30 : Array Value} {codes : List (Addr × Obj)} {p9 : Program} {lo9 : List Str} {mg mb m : Str → Option Value} {mean : ExcName → Option Value} {g : Heap} {env9 : Env}
theorem law_lfollow2 (X : (hd.heap_1 w.params).In g) (T : Top p9 lo9 mean mg mb g) (F : Fr g L s.heap m) (N : News g L s.heap (LNews I lD dp rr dx dh dg L oI ol op (instObj 281 dx) (refsDict w t1 t2 dg dp) oh og oR oO oG oF oS (tabObj ps) (tabObj ps3) codes)) (ap : Apart I lD dp rr dx dh dg L codes) (hroom : A.depth + 40 < recursionLimit) (hun : A.units + 400 < cLine) (hhd : A.handled = none) (hB : BObj w oh D) (gD : Good D) {k : Bts} {t : Tok} (hk : k.length ≤ 64) (hco : CodesOk lamQ ps codes)
    (h : ∀ T l vs cnt ps' res rv h' tk' codes', followD D 6 k = some (ps', res) → ResIs res rv → BytesAre vs ps' → Fr g L h' m → News g L h' (LNews I lD dp rr dx dh dg L oI ol op (instObj 281 dx) (refsDict w t1 t2 dg dp) oh og oR oO oG oF oS (tabObj ps) (tabObj ps3) codes') → Apart I lD dp rr dx dh dg L codes' → CodesOk lamQ ps codes' → (T, pairObj l rv) ∈ codes' → (l, W.listOf vs.toArray cnt) ∈ codes' → Q (.ref T) { s with heap := h', toks := tk' })
    (hl : followD D 6 k = none → ∀ h' tk', Fr g L h' m → News g L h' (LNews I lD dp rr dx dh dg L oI ol op (instObj 281 dx) (refsDict w t1 t2 dg dp) oh og oR oO oG oF oS (tabObj ps) (tabObj ps3) codes) → Q .none { s with heap := h', toks := tk' }) :
    wpAny (model PG w) A (call (.ref 325) [.ref dh, .bytes k.toArray t]) Q E s := by
  have hD : DictAt w g s.heap dh D := ⟨oh, (N (dh, oh) (by k_mem)).1, hB, (N (dh, oh) (by k_mem)).2.2, lo_dh ap⟩
  have key : ∀ (T l : Addr) (rv : Value) (vs : List Value) (cnt : Nat) (h' : Heap), KeepAll s.heap h' → h'.get? T = some (pairObj l rv) → h'.get? l = some (W.listOf vs.toArray cnt) → s.heap.get? T = none → s.heap.get? l = none →
      News g L h' (LNews I lD dp rr dx dh dg L oI ol op (instObj 281 dx) (refsDict w t1 t2 dg dp) oh og oR oO oG oF oS (tabObj ps) (tabObj ps3) ((T, pairObj l rv) :: (l, W.listOf vs.toArray cnt) :: codes)) ∧ Apart I lD dp rr dx dh dg L ((T, pairObj l rv) :: (l, W.listOf vs.toArray cnt) :: codes) ∧ CodesOk lamQ ps ((T, pairObj l rv) :: (l, W.listOf vs.toArray cnt) :: codes) := by
    intro T l rv vs cnt h' kk eT eL nT nL
    have ne : ∀ (a : Addr), s.heap.get? a = none → ∀ p ∈ LNews I lD dp rr dx dh dg L oI ol op (instObj 281 dx) (refsDict w t1 t2 dg dp) oh og oR oO oG oF oS (tabObj ps) (tabObj ps3) codes, @Ne Nat p.1 a := fun a na p hp q => by
      have := (N p hp).1
      rw [q, na] at this; cases this
    have N1 := news_more F (news_keepAll N kk) eL nL
    have N2 := news_in N1
    have N3 : News g L h' ((T, pairObj l rv) :: LNews I lD dp rr dx dh dg L oI ol op (instObj 281 dx) (refsDict w t1 t2 dg dp) oh og oR oO oG oF oS (tabObj ps) (tabObj ps3) ((l, W.listOf vs.toArray cnt) :: codes)) := fun p hp => by
      rcases List.mem_cons.mp hp with rfl | hp
      · exact news_more F (news_keepAll N kk) eT nT _ (.head _)
      · exact N2 p hp
    exact ⟨news_in N3, apart_add (apart_add ap (off_new N1 (ne l nL))) (off_new (news_more F (news_keepAll N kk) eT nT) (ne T nT)), codes_more (codes_more hco)⟩
  refine spec_lfollow X T (keep_base F base_self) (by omega) (by omega) hhd hD gD.vals hk (fun T l b tb vs ps' cnt h' tk' hf hb kk eT eL nT nL => ?_) (fun T l vs ps' cnt h' tk' hf hb kk eT eL nT nL => ?_) (fun hf h' tk' kk => ?_)
  · obtain ⟨a, b', c⟩ := key T l _ vs cnt h' kk eT eL nT nL
    exact h T l vs cnt ps' (some b) _ h' tk' _ hf ⟨_, rfl⟩ hb (fr_keepAll F kk) a b' c (.head _) (.tail _ (.head _))
  · obtain ⟨a, b', c⟩ := key T l _ vs cnt h' kk eT eL nT nL
    exact h T l vs cnt ps' none _ h' tk' _ hf rfl hb (fr_keepAll F kk) a b' c (.head _) (.tail _ (.head _))
  · exact hl hf h' tk' (fr_keepAll F kk) (news_keepAll N kk)
end
end
example : ∀ w A s Q E, TZ w A s Q E → TZ w A s Q E := by intro w A s Q E h; w_top off; first | (walk1; fail) | exact h
section
def gTB.siteTag : Unit := ()
open gTB
open LG
example : True := by
  k_with "gTB call ref" => (k_here; (try dsimp only [List.nil_append, List.cons_append, List.append_nil]); (with_reducible show wpAny _ _ (call (Value.ref 297) _) _ _ _); k_dflt (refine' spec_values ?sX ?sT ?sb ?sr ?su ?sh ?_; (case sb => exact keep_base (by k_asm) (by k_asm)); (case sX => k_asm); (case sT => k_asm); (case sr => k_room); (case su => k_units); (case sh => k_asm)); (all_goals first | ((with_reducible intro l' vs' c' h' tk' hb' kk' eL' nL'); (k_dflt (have N' := news_more (by k_asm) (news_keepAll (by k_asm) kk') eL' nL')); (k_dflt (have F' := fr_keepAll (by k_asm) kk')); clear nL' eL' kk'; (try k_sweep))))
  k_with "gTB call ref" => (k_here; (try dsimp only [List.nil_append, List.cons_append, List.append_nil]); (with_reducible show wpAny _ _ (call (Value.ref 290) _) _ _ _); k_dflt (refine' spec_names ?sX ?sT ?sb ?sr ?su ?sh ?_; (case sb => exact keep_base (by k_asm) (by k_asm)); (case sX => k_asm); (case sT => k_asm); (case sr => k_room); (case su => k_units); (case sh => k_asm)); (all_goals first | ((with_reducible intro l' vs' c' h' tk' hb' kk' eL' nL'); (k_dflt (have N' := news_more (by k_asm) (news_keepAll (by k_asm) kk') eL' nL')); (k_dflt (have F' := fr_keepAll (by k_asm) kk')); clear nL' eL' kk'; (try k_sweep))))
  k_with "gTB k_updF" => (exact upd4 (by k_asm))
  trivial
theorem in_tail {I lD dp rr dx dh dg L : Addr} {oI ol op or ox oh og oR oO oG oF oS o4 o1 : Obj} {codes : List (Addr × Obj)} {x : Addr × Obj} (h : x ∈ codes) : x ∈ LNews I lD dp rr dx dh dg L oI ol op or ox oh og oR oO oG oF oS o4 o1 codes := by
  iterate 14 (refine List.Mem.tail _ ?_)
  exact h
example : True := by
  k_with "gTB compareOp NotEq ref ref" => (refine iter_stopF ?_)
  k_with "gTB subscriptTail" => ((with_reducible show wpAny _ _ (subscriptTail (Expr.Name (Str.ofString "chain") _) _ _ _) _ _ _); refine iter_stopF ?_)
  trivial
section
set_option maxHeartbeats 4000000 in
theorem blk6 : ∃ scope b, armOf 3 8 0 = some (scope, b) ∧ ∀ {p9 : Program} {lo9 : List Str} {w : World} {A : Around} {g h : Heap} {L fa I lS lD dp rr dx dh dg : Addr} {oI ol op : Obj} {t1 t2 : Tok} {D : DD} {k gd am fr : Bts} {old : Option Bts} {q kd : Int} {mg mb : Str → Option Value} {mean : ExcName → Option Value} {Q : Flow → Shared → Prop} {E : Value → Shared → Prop} {gs : Array GenState} {dr : Drawn} {tk : Nat} {os : OsState}, (hd.heap_1 w.params).In g → Top p9 lo9 mean mg mb g → CodeHd g 350 348 → CodeHd g 107 103 → A.frames = some [envOfC (Str.ofString "law") scope L fa (.ref 350)] → A.depth + 60 < recursionLimit → A.units + 600 < cLine → A.handled = none → k ∈ names9 → gd ∈ names6 → am ∈ names6 → fr ∈ vals6 → old ∈ olds4 → Good D → LawSt w g I lS lD dp rr dx dh dg L oI ol op t1 t2 D k gd am fr old q kd h gs →
    (∀ D' h' gs' dr' tk', Good D' → LawSt w g I lS lD dp rr dx dh dg L oI ol op t1 t2 D' k gd am fr old q kd h' gs' → Q .next ⟨h', gs', dr', tk', os⟩) → 
    wpAny (model PG w) A (execs b (envOfC (Str.ofString "law") scope L fa (.ref 350))) Q E ⟨h, gs, dr, tk, os⟩ := by
  refine ⟨_, _, by rfl, ?_⟩
  intro p9 lo9 w A g h L fa I lS lD dp rr dx dh dg oI ol op t1 t2 D k gd am fr old q kd mg mb mean Q E gs dr tk os X T hc1 hc2 hA hroom hun hhd hk hgd ham hfr hold gD hS hQ
  obtain ⟨oh, og, oR, oO, oG, oF, oS, ps, ps3, codes, m, tS, tF, tG, tA, tq, tk9, vO, F, N, ap, ag, dS, dF, dG, dO, hro, dR, hB, hBh, hco, ht3⟩ := hS
  have hk64 : k.length ≤ 64 := names9_len k hk
  have hgd64 : gd.length ≤ 64 := names6_len gd hgd
  have ham64 : am.length ≤ 64 := names6_len am ham
  obtain ⟨env9, he9, hk9, hf9⟩ : ∃ env9, A.frames = some [env9] ∧ env9.scope.kind = .function ∧ env9.frame = some L := ⟨_, hA, rfl, rfl⟩
  have loH := lo_dh ap
  have loG := lo_dg ap
  have gL100 : D.length ≤ 16777216 := Nat.le_trans gD.len100 (by decide)
  have hcc := And.intro hc1 hc2
  clear hc1 hc2
  have hol : ∀ b, old = some b → b.length ≤ 64 := olds_len old hold
  have hrefl : KeepAll g g := fun _ _ e => e
  k_steps
  show wpAny _ _ (call (Value.ref 325) _) _ _ _
  rename Fr _ _ _ _ => F7
  rename News _ _ _ _ => N7
  refine law_lfollow2 X T F7 N7 ap (by omega) (by omega) hhd hBh gD hk64 hco (fun T1 l1 vs1 c1 ps1 res1 rv1 h8 tk8 cd8 hf1 hr1 hb1 F8 N8 ap8 hco8 m1 m2 => ?_) (fun hf1 h8 tk8 F8 N8 => ?_)
  · clear F7 N7 ap hco
    k_steps
    show wpAny _ _ (eval (.Lambda _ _ _ _) _) _ _ _
    rename Fr _ _ _ _ => F1
    rename News _ _ _ _ => N1
    refine law_lamS (fv := [(Str.ofString "refs", L + 1 + 1 + 1 + 1 + 1), (Str.ofString "spot", L + 1)]) (gl := []) F1 N1 ap8 T hcc.1 hco8 ?_ rfl rfl (fun _ _ _ _ _ _ => rfl) rfl rfl rfl (by decide) (by intro p9 hp9; (repeat (rcases List.mem_cons.mp hp9 with rfl | hp9; exact ⟨rfl, rfl⟩)); cases hp9) (by intro x9 hx9; (repeat (rcases List.mem_cons.mp hx9 with rfl | hx9; exact rfl)); cases hx9)
    intro f2 fo2 h2 tk2 ps2 codes2 F2 N2 ap2 hco2 LA2 lt2 hsub2
    clear F1 N1 ap8 hco8
    k_steps
    show wpAny _ _ (call (Value.ref 346) [Value.ref _]) _ _ _
    refine law_follow X T F2 N2 ap2 lt2 hA rfl rfl (by omega) (by omega) hhd hB gD ag dR dS LA2 rfl hk64 (fun T2 l2 vs2 c2 ps9 res2 rv2 h6 g6 d6 tk6 hf2 hr2 hb2 F6 N6 ag6 => ?_) (fun hf2 => by rw [hf1] at hf2; cases hf2)
    have e9 := hf1.symm.trans hf2
    cases e9
    clear F2 N2 LA2 ag
    k_steps
    show wpAny _ _ (compareOp _ _ _) _ _ _
    rename Fr _ _ _ _ => F7
    rename News _ _ _ _ => N7
    refine ne_tuples (ks := ps1) (r := res1) ⟨_, (N7 _ (.head _)).1, rfl, _, rfl⟩ ⟨_, (N7 _ (.tail _ (.tail _ (in_tail (hsub2 _ m1))))).1, rfl, _, rfl⟩ ⟨_, (N7 _ (.tail _ (.head _))).1, rfl, _, rfl⟩ ⟨_, (N7 _ (.tail _ (.tail _ (in_tail (hsub2 _ m2))))).1, rfl, _, rfl⟩ hb2 hb1 hr2 hr1 (by omega) ?_
    have N8' := news_drop (news_drop N7)
    clear N7
    cases res1 with
    | none =>
      obtain rfl : rv1 = .none := hr1
      k_steps
      show wpAny _ _ (subscriptTail _ _ _ _) _ _ _
      rename News _ _ _ _ => N7
      refine item_tuple ⟨_, (N7 _ (in_tail (hsub2 _ m1))).1, rfl, _, rfl⟩ (by decide) (by decide) (j := 1) (x := .none) rfl rfl ?_
      k_steps
      show wpAny _ _ (eval (.Lambda _ _ _ _) _) _ _ _
      rename Fr _ _ _ _ => F1
      rename News _ _ _ _ => N1
      refine law_lamS (fv := [(Str.ofString "refs", L + 1 + 1 + 1 + 1 + 1), (Str.ofString "spot", L + 1)]) (gl := []) F1 N1 ap2 T hcc.1 hco2 ?_ rfl rfl (fun _ _ _ _ _ _ => rfl) rfl rfl rfl (by decide) (by intro p9 hp9; (repeat (rcases List.mem_cons.mp hp9 with rfl | hp9; exact ⟨rfl, rfl⟩)); cases hp9) (by intro x9 hx9; (repeat (rcases List.mem_cons.mp hx9 with rfl | hx9; exact rfl)); cases hx9)
      intro f3 fo3 h3 tk3 ps3 codes3 F3 N3 ap3 hco3 LA3 lt3 hsub3
      clear F1 N1 ap2 hco2
      k_steps
      show wpAny _ _ (call (Value.ref 346) [Value.ref _]) _ _ _
      refine law_get X T F3 N3 ap3 lt3 hA rfl rfl (by omega) (by omega) hhd hB gD ag6 dR dS LA3 hk64 (fun ps9 b9 t9 h9 g9 d9 tk9 hf3 _ _ _ => by rw [hf1] at hf3; cases hf3) (fun ps9 hf3 t9 h9 tk9 F9 N9 => ?_) (fun hf3 => by rw [hf1] at hf3; cases hf3)
      clear F3 N3 LA3
      k_steps
      show wpAny _ _ (call (Value.ref 159) _) _ _ _
      rename Fr _ _ _ _ => F7
      rename News _ _ _ _ => N7
      refine spec_read X T (keep_base F7 base_self) (by omega) (by omega) hhd (refs_at3 no_frs F7 N7 hf9 base_self (by k_mem) (by k_mem) (by k_mem) hB loG) gD.vals (fun v9 t9 h9 tk9 hg9 kk => ?_) (fun h9 tk9 hg9 kk => ?_)
      · have F9 := fr_keepAll F7 kk
        have N9 := news_keepAll N7 kk
        clear F7 N7 kk
        k_steps
        · rename (_ != _) = true => q9
          rename getB D k = some _ => hx
          have e := Option.some.inj (hg9.symm.trans hx)
          rw [e] at q9; simp at q9
        · show wpAny _ _ (call (Value.ref 173) _) _ _ _
          rename Fr _ _ _ _ => F7
          rename News _ _ _ _ => N7
          refine spec_contains X T (keep_base F7 base_self) (by omega) (by omega) hhd (refs_at3 no_frs F7 N7 hf9 base_self (by k_mem) (by k_mem) (by k_mem) hB loG) gD.vals (fun h10 tk10 kk => ?_)
          have F9 := fr_keepAll F7 kk
          have N9 := news_keepAll N7 kk
          clear F7 N7 kk
          k_steps
          · rename (_ != _) = true => q9
            simp at q9
          · have GD := gD
            rename Fr _ _ _ _ => F9
            rename News _ _ _ _ => N9
            exact (hQ _ _ _ _ _ GD ⟨_, _, _, _, _, _, _, _, _, _, _, _, _, _, _, _, _, _, fr_law F9 (by with_unfolding_all rfl) (by with_unfolding_all rfl) (by with_unfolding_all rfl) (by with_unfolding_all rfl) (by with_unfolding_all rfl) (by with_unfolding_all rfl), N9, by k_asm, by k_asm, dS, dF, dG, dO, hro, dR, by k_asm, by k_asm, by k_asm, by k_asm⟩)
        · rename getB D k = none => hx
          rw [hg9] at hx; cases hx
      · have F9 := fr_keepAll F7 kk
        have N9 := news_keepAll N7 kk
        clear F7 N7 kk
        k_steps
        · rename getB D k = some _ => hx
          rw [hg9] at hx; cases hx
        · show wpAny _ _ (call (Value.ref 173) _) _ _ _
          rename Fr _ _ _ _ => F7
          rename News _ _ _ _ => N7
          refine spec_contains X T (keep_base F7 base_self) (by omega) (by omega) hhd (refs_at3 no_frs F7 N7 hf9 base_self (by k_mem) (by k_mem) (by k_mem) hB loG) gD.vals (fun h10 tk10 kk => ?_)
          have F9 := fr_keepAll F7 kk
          have N9 := news_keepAll N7 kk
          clear F7 N7 kk
          k_steps
          · rename (_ != _) = true => q9
            simp at q9
          · have GD := gD
            rename Fr _ _ _ _ => F9
            rename News _ _ _ _ => N9
            exact (hQ _ _ _ _ _ GD ⟨_, _, _, _, _, _, _, _, _, _, _, _, _, _, _, _, _, _, fr_law F9 (by with_unfolding_all rfl) (by with_unfolding_all rfl) (by with_unfolding_all rfl) (by with_unfolding_all rfl) (by with_unfolding_all rfl) (by with_unfolding_all rfl), N9, by k_asm, by k_asm, dS, dF, dG, dO, hro, dR, by k_asm, by k_asm, by k_asm, by k_asm⟩)
    | some b =>
      obtain ⟨tb, rfl⟩ := hr1
      k_steps
      show wpAny _ _ (subscriptTail _ _ _ _) _ _ _
      rename News _ _ _ _ => N7
      refine item_tuple ⟨_, (N7 _ (in_tail (hsub2 _ m1))).1, rfl, _, rfl⟩ (by decide) (by decide) (j := 1) (x := .bytes b.toArray tb) rfl rfl ?_
      k_steps
      show wpAny _ _ (subscriptTail _ _ _ _) _ _ _
      rename News _ _ _ _ => N7
      refine item_tuple ⟨_, (N7 _ (in_tail (hsub2 _ m1))).1, rfl, _, rfl⟩ (by decide) (by decide) (j := 1) (x := .bytes b.toArray tb) rfl rfl ?_
      k_steps
      show wpAny _ _ (eval (.Lambda _ _ _ _) _) _ _ _
      rename Fr _ _ _ _ => F1
      rename News _ _ _ _ => N1
      refine law_lamS (fv := [(Str.ofString "refs", L + 1 + 1 + 1 + 1 + 1), (Str.ofString "spot", L + 1)]) (gl := []) F1 N1 ap2 T hcc.1 hco2 ?_ rfl rfl (fun _ _ _ _ _ _ => rfl) rfl rfl rfl (by decide) (by intro p9 hp9; (repeat (rcases List.mem_cons.mp hp9 with rfl | hp9; exact ⟨rfl, rfl⟩)); cases hp9) (by intro x9 hx9; (repeat (rcases List.mem_cons.mp hx9 with rfl | hx9; exact rfl)); cases hx9)
      intro f3 fo3 h3 tk3 ps3 codes3 F3 N3 ap3 hco3 LA3 lt3 hsub3
      clear F1 N1 ap2 hco2
      k_steps
      show wpAny _ _ (call (Value.ref 346) [Value.ref _]) _ _ _
      refine law_get X T F3 N3 ap3 lt3 hA rfl rfl (by omega) (by omega) hhd hB gD ag6 dR dS LA3 hk64 (fun ps9 b9 t9 h9 g9 d9 tk9 hf3 F9 N9 ag9 => ?_) (fun ps9 hf3 => by rw [hf1] at hf3; cases hf3) (fun hf3 => by rw [hf1] at hf3; cases hf3)
      have e9 := hf1.symm.trans hf3
      cases e9
      clear F3 N3 LA3 ag6
      k_steps
      · rename (_ != _) = true => q9
        simp at q9
      · show wpAny _ _ (call (Value.ref 159) _) _ _ _
        rename Fr _ _ _ _ => F7
        rename News _ _ _ _ => N7
        refine spec_read X T (keep_base F7 base_self) (by omega) (by omega) hhd (refs_at3 no_frs F7 N7 hf9 base_self (by k_mem) (by k_mem) (by k_mem) hB loG) gD.vals (fun v9 t9 h9 tk9 hg9 kk => ?_) (fun h9 tk9 hg9 kk => ?_)
        · have F9 := fr_keepAll F7 kk
          have N9 := news_keepAll N7 kk
          clear F7 N7 kk
          k_steps
          · rename (_ != _) = true => q9
            rename getB D k = some _ => hx
            have e := Option.some.inj (hg9.symm.trans hx)
            rw [e] at q9; simp at q9
          · show wpAny _ _ (call (Value.ref 173) _) _ _ _
            rename Fr _ _ _ _ => F7
            rename News _ _ _ _ => N7
            refine spec_contains X T (keep_base F7 base_self) (by omega) (by omega) hhd (refs_at3 no_frs F7 N7 hf9 base_self (by k_mem) (by k_mem) (by k_mem) hB loG) gD.vals (fun h10 tk10 kk => ?_)
            have F9 := fr_keepAll F7 kk
            have N9 := news_keepAll N7 kk
            clear F7 N7 kk
            k_steps
            · rename (_ != _) = true => q9
              simp at q9
            · have GD := gD
              rename Fr _ _ _ _ => F9
              rename News _ _ _ _ => N9
              exact (hQ _ _ _ _ _ GD ⟨_, _, _, _, _, _, _, _, _, _, _, _, _, _, _, _, _, _, fr_law F9 (by with_unfolding_all rfl) (by with_unfolding_all rfl) (by with_unfolding_all rfl) (by with_unfolding_all rfl) (by with_unfolding_all rfl) (by with_unfolding_all rfl), N9, by k_asm, by k_asm, dS, dF, dG, dO, hro, dR, by k_asm, by k_asm, by k_asm, by k_asm⟩)
          · rename getB D k = none => hx
            rw [hg9] at hx; cases hx
        · have F9 := fr_keepAll F7 kk
          have N9 := news_keepAll N7 kk
          clear F7 N7 kk
          k_steps
          · rename getB D k = some _ => hx
            rw [hg9] at hx; cases hx
          · show wpAny _ _ (call (Value.ref 173) _) _ _ _
            rename Fr _ _ _ _ => F7
            rename News _ _ _ _ => N7
            refine spec_contains X T (keep_base F7 base_self) (by omega) (by omega) hhd (refs_at3 no_frs F7 N7 hf9 base_self (by k_mem) (by k_mem) (by k_mem) hB loG) gD.vals (fun h10 tk10 kk => ?_)
            have F9 := fr_keepAll F7 kk
            have N9 := news_keepAll N7 kk
            clear F7 N7 kk
            k_steps
            · rename (_ != _) = true => q9
              simp at q9
            · have GD := gD
              rename Fr _ _ _ _ => F9
              rename News _ _ _ _ => N9
              exact (hQ _ _ _ _ _ GD ⟨_, _, _, _, _, _, _, _, _, _, _, _, _, _, _, _, _, _, fr_law F9 (by with_unfolding_all rfl) (by with_unfolding_all rfl) (by with_unfolding_all rfl) (by with_unfolding_all rfl) (by with_unfolding_all rfl) (by with_unfolding_all rfl), N9, by k_asm, by k_asm, dS, dF, dG, dO, hro, dR, by k_asm, by k_asm, by k_asm, by k_asm⟩)
  · clear F7 N7
    k_steps
    show wpAny _ _ (eval (.Lambda _ _ _ _) _) _ _ _
    rename Fr _ _ _ _ => F1
    rename News _ _ _ _ => N1
    refine law_lamS (fv := [(Str.ofString "refs", L + 1 + 1 + 1 + 1 + 1), (Str.ofString "spot", L + 1)]) (gl := []) F1 N1 ap T hcc.1 hco ?_ rfl rfl (fun _ _ _ _ _ _ => rfl) rfl rfl rfl (by decide) (by intro p9 hp9; (repeat (rcases List.mem_cons.mp hp9 with rfl | hp9; exact ⟨rfl, rfl⟩)); cases hp9) (by intro x9 hx9; (repeat (rcases List.mem_cons.mp hx9 with rfl | hx9; exact rfl)); cases hx9)
    intro f2 fo2 h2 tk2 ps2 codes2 F2 N2 ap2 hco2 LA2 lt2 hsub2
    clear F1 N1 ap hco
    k_steps
    show wpAny _ _ (call (Value.ref 346) [Value.ref _]) _ _ _
    refine law_follow X T F2 N2 ap2 lt2 hA rfl rfl (by omega) (by omega) hhd hB gD ag dR dS LA2 rfl hk64 (fun T2 l2 vs2 c2 ps9 res2 rv2 h6 g6 d6 tk6 hf2 _ _ _ _ _ => by rw [hf1] at hf2; cases hf2) (fun _ t6 h6 tk6 F6 N6 => ?_)
    clear F2 N2 LA2
    k_steps
    show wpAny _ _ (eval (.Lambda _ _ _ _) _) _ _ _
    rename Fr _ _ _ _ => F1
    rename News _ _ _ _ => N1
    refine law_lamS (fv := [(Str.ofString "refs", L + 1 + 1 + 1 + 1 + 1), (Str.ofString "spot", L + 1)]) (gl := []) F1 N1 ap2 T hcc.1 hco2 ?_ rfl rfl (fun _ _ _ _ _ _ => rfl) rfl rfl rfl (by decide) (by intro p9 hp9; (repeat (rcases List.mem_cons.mp hp9 with rfl | hp9; exact ⟨rfl, rfl⟩)); cases hp9) (by intro x9 hx9; (repeat (rcases List.mem_cons.mp hx9 with rfl | hx9; exact rfl)); cases hx9)
    intro f3 fo3 h3 tk3 ps3 codes3 F3 N3 ap3 hco3 LA3 lt3 hsub3
    clear F1 N1 ap2 hco2
    k_steps
    show wpAny _ _ (call (Value.ref 346) [Value.ref _]) _ _ _
    refine law_get X T F3 N3 ap3 lt3 hA rfl rfl (by omega) (by omega) hhd hB gD ag dR dS LA3 hk64 (fun ps9 b9 t9 h9 g9 d9 tk9 hf2 _ _ _ => by rw [hf1] at hf2; cases hf2) (fun ps9 hf2 => by rw [hf1] at hf2; cases hf2) (fun _ t9 h9 tk9 F9 N9 => ?_)
    clear F3 N3 LA3
    k_steps
    show wpAny _ _ (call (Value.ref 159) _) _ _ _
    rename Fr _ _ _ _ => F7
    rename News _ _ _ _ => N7
    refine spec_read X T (keep_base F7 base_self) (by omega) (by omega) hhd (refs_at3 no_frs F7 N7 hf9 base_self (by k_mem) (by k_mem) (by k_mem) hB loG) gD.vals (fun v9 t9 h9 tk9 hg9 kk => ?_) (fun h9 tk9 hg9 kk => ?_)
    · have F9 := fr_keepAll F7 kk
      have N9 := news_keepAll N7 kk
      clear F7 N7 kk
      k_steps
      · rename (_ != _) = true => q9
        rename getB D k = some _ => hx
        have e := Option.some.inj (hg9.symm.trans hx)
        rw [e] at q9; simp at q9
      · show wpAny _ _ (call (Value.ref 173) _) _ _ _
        rename Fr _ _ _ _ => F7
        rename News _ _ _ _ => N7
        refine spec_contains X T (keep_base F7 base_self) (by omega) (by omega) hhd (refs_at3 no_frs F7 N7 hf9 base_self (by k_mem) (by k_mem) (by k_mem) hB loG) gD.vals (fun h10 tk10 kk => ?_)
        have F9 := fr_keepAll F7 kk
        have N9 := news_keepAll N7 kk
        clear F7 N7 kk
        k_steps
        · rename (_ != _) = true => q9
          simp at q9
        · have GD := gD
          rename Fr _ _ _ _ => F9
          rename News _ _ _ _ => N9
          exact (hQ _ _ _ _ _ GD ⟨_, _, _, _, _, _, _, _, _, _, _, _, _, _, _, _, _, _, fr_law F9 (by with_unfolding_all rfl) (by with_unfolding_all rfl) (by with_unfolding_all rfl) (by with_unfolding_all rfl) (by with_unfolding_all rfl) (by with_unfolding_all rfl), N9, by k_asm, by k_asm, dS, dF, dG, dO, hro, dR, by k_asm, by k_asm, by k_asm, by k_asm⟩)
      · rename getB D k = none => hx
        rw [hg9] at hx; cases hx
    · have F9 := fr_keepAll F7 kk
      have N9 := news_keepAll N7 kk
      clear F7 N7 kk
      k_steps
      · rename getB D k = some _ => hx
        rw [hg9] at hx; cases hx
      · show wpAny _ _ (call (Value.ref 173) _) _ _ _
        rename Fr _ _ _ _ => F7
        rename News _ _ _ _ => N7
        refine spec_contains X T (keep_base F7 base_self) (by omega) (by omega) hhd (refs_at3 no_frs F7 N7 hf9 base_self (by k_mem) (by k_mem) (by k_mem) hB loG) gD.vals (fun h10 tk10 kk => ?_)
        have F9 := fr_keepAll F7 kk
        have N9 := news_keepAll N7 kk
        clear F7 N7 kk
        k_steps
        · rename (_ != _) = true => q9
          simp at q9
        · have GD := gD
          rename Fr _ _ _ _ => F9
          rename News _ _ _ _ => N9
          exact (hQ _ _ _ _ _ GD ⟨_, _, _, _, _, _, _, _, _, _, _, _, _, _, _, _, _, _, fr_law F9 (by with_unfolding_all rfl) (by with_unfolding_all rfl) (by with_unfolding_all rfl) (by with_unfolding_all rfl) (by with_unfolding_all rfl) (by with_unfolding_all rfl), N9, by k_asm, by k_asm, dS, dF, dG, dO, hro, dR, by k_asm, by k_asm, by k_asm, by k_asm⟩)
end
end
example : ∀ w A s Q E, TZ w A s Q E → TZ w A s Q E := by intro w A s Q E h; w_top off; first | (walk1; fail) | exact h
section
def gTC.siteTag : Unit := ()
open gTC
open LG
example : True := by
  k_with "gTC execs cons" => ((fail_if_success (with_reducible show wpAny _ _ (execs (Stmt.If (Expr.Compare (Expr.Name (Str.ofString "kind") _) _ _ _) _ _ _ :: _) _) _ _ _)); refine iter_stopF ?_)
  trivial
section
set_option maxHeartbeats 2000000 in
theorem turn_end : ∃ scope b i1 i2, forOf 3 = some (scope, b) ∧ b.drop 7 = [i1, i2] ∧ ∀ {p9 : Program} {lo9 : List Str} {w : World} {A : Around} {g h : Heap} {L fa I lS lD dp rr dx dh dg : Addr} {oI ol op : Obj} {t1 t2 : Tok} {D : DD} {k gd am fr : Bts} {old : Option Bts} {q kd : Int} {mg mb : Str → Option Value} {mean : ExcName → Option Value} {Q : Flow → Shared → Prop} {E : Value → Shared → Prop} {gs : Array GenState} {dr : Drawn} {tk : Nat} {os : OsState}, (hd.heap_1 w.params).In g → Top p9 lo9 mean mg mb g → CodeHd g 350 348 → CodeHd g 107 103 → A.frames = some [envOfC (Str.ofString "law") scope L fa (.ref 350)] → A.depth + 60 < recursionLimit → A.units + 600 < cLine → A.handled = none → k ∈ names9 → gd ∈ names6 → am ∈ names6 → fr ∈ vals6 → old ∈ olds4 → Good D → LawSt w g I lS lD dp rr dx dh dg L oI ol op t1 t2 D k gd am fr old q kd h gs →
    (∀ D' h' gs' dr' tk', Good D' → LawSt w g I lS lD dp rr dx dh dg L oI ol op t1 t2 D' k gd am fr old q kd h' gs' → Q .next ⟨h', gs', dr', tk', os⟩) → 
    wpAny (model PG w) A (execs [i1, i2] (envOfC (Str.ofString "law") scope L fa (.ref 350))) Q E ⟨h, gs, dr, tk, os⟩ := by
  obtain ⟨sc0, b0, e0, H0⟩ := blk0
  have q0 := (e0 : some (_, _) = some (sc0, b0))
  cases q0
  obtain ⟨sc1, b1, e1, H1⟩ := blk1
  have q1 := (e1 : some (_, _) = some (sc1, b1))
  cases q1
  obtain ⟨sc2, b2, e2, H2⟩ := blk2
  have q2 := (e2 : some (_, _) = some (sc2, b2))
  cases q2
  obtain ⟨sc3, b3, e3, H3⟩ := blk3
  have q3 := (e3 : some (_, _) = some (sc3, b3))
  cases q3
  obtain ⟨sc4, b4, e4, H4⟩ := blk4
  have q4 := (e4 : some (_, _) = some (sc4, b4))
  cases q4
  obtain ⟨sc5, b5, e5, H5⟩ := blk5
  have q5 := (e5 : some (_, _) = some (sc5, b5))
  cases q5
  obtain ⟨sc6, b6, e6, H6⟩ := blk6
  have q6 := (e6 : some (_, _) = some (sc6, b6))
  cases q6
  refine ⟨_, _, _, _, by rfl, by rfl, ?_⟩
  intro p9 lo9 w A g h L fa I lS lD dp rr dx dh dg oI ol op t1 t2 D k gd am fr old q kd mg mb mean Q E gs dr tk os X T hc1 hc2 hA hroom hun hhd hk hgd ham hfr hold gD hS hQ
  have hrefl : KeepAll g g := fun _ _ e => e
  obtain ⟨oh, og, oR, oO, oG, oF, oS, ps, ps3, codes, m, tS, tF, tG, tA, tq, tk9, vO, F, N, ap, ag, dS, dF, dG, dO, hro, dR, hB, hBh, hco, ht3⟩ := id hS
  have hcc := And.intro hc1 hc2
  clear hc1 hc2
  k_steps
  · refine H0 X T hcc.1 hcc.2 hA hroom hun hhd hk hgd ham hfr hold gD hS fun D1 h1 gs1 dr1 tk1 gD1 hS1 => ?_
    clear F N ap ag dS dF dG dO hro dR hB hBh hco ht3 hS
    obtain ⟨oh, og, oR, oO, oG, oF, oS, ps, ps3, codes, m, tS, tF, tG, tA, tq, tk9, vO, F, N, ap, ag, dS, dF, dG, dO, hro, dR, hB, hBh, hco, ht3⟩ := id hS1
    k_steps
    exact hQ _ _ _ _ _ gD1 hS1
  · refine H1 X T hcc.1 hcc.2 hA hroom hun hhd hk hgd ham hfr hold gD hS fun D1 h1 gs1 dr1 tk1 gD1 hS1 => ?_
    clear F N ap ag dS dF dG dO hro dR hB hBh hco ht3 hS
    obtain ⟨oh, og, oR, oO, oG, oF, oS, ps, ps3, codes, m, tS, tF, tG, tA, tq, tk9, vO, F, N, ap, ag, dS, dF, dG, dO, hro, dR, hB, hBh, hco, ht3⟩ := id hS1
    k_steps
    exact hQ _ _ _ _ _ gD1 hS1
  · refine H2 X T hcc.1 hcc.2 hA hroom hun hhd hk hgd ham hfr hold gD hS fun D1 h1 gs1 dr1 tk1 gD1 hS1 => ?_
    clear F N ap ag dS dF dG dO hro dR hB hBh hco ht3 hS
    obtain ⟨oh, og, oR, oO, oG, oF, oS, ps, ps3, codes, m, tS, tF, tG, tA, tq, tk9, vO, F, N, ap, ag, dS, dF, dG, dO, hro, dR, hB, hBh, hco, ht3⟩ := id hS1
    k_steps
    exact hQ _ _ _ _ _ gD1 hS1
  · refine H3 X T hcc.1 hcc.2 hA hroom hun hhd hk hgd ham hfr hold gD hS fun D1 h1 gs1 dr1 tk1 gD1 hS1 => ?_
    clear F N ap ag dS dF dG dO hro dR hB hBh hco ht3 hS
    obtain ⟨oh, og, oR, oO, oG, oF, oS, ps, ps3, codes, m, tS, tF, tG, tA, tq, tk9, vO, F, N, ap, ag, dS, dF, dG, dO, hro, dR, hB, hBh, hco, ht3⟩ := id hS1
    k_steps
    exact hQ _ _ _ _ _ gD1 hS1
  · refine H4 X T hcc.1 hcc.2 hA hroom hun hhd hk hgd ham hfr hold gD hS fun D1 h1 gs1 dr1 tk1 gD1 hS1 => ?_
    clear F N ap ag dS dF dG dO hro dR hB hBh hco ht3 hS
    obtain ⟨oh, og, oR, oO, oG, oF, oS, ps, ps3, codes, m, tS, tF, tG, tA, tq, tk9, vO, F, N, ap, ag, dS, dF, dG, dO, hro, dR, hB, hBh, hco, ht3⟩ := id hS1
    k_steps
    exact hQ _ _ _ _ _ gD1 hS1
  · refine H5 X T hcc.1 hcc.2 hA hroom hun hhd hk hgd ham hfr hold gD hS fun D1 h1 gs1 dr1 tk1 gD1 hS1 => ?_
    clear F N ap ag dS dF dG dO hro dR hB hBh hco ht3 hS
    obtain ⟨oh, og, oR, oO, oG, oF, oS, ps, ps3, codes, m, tS, tF, tG, tA, tq, tk9, vO, F, N, ap, ag, dS, dF, dG, dO, hro, dR, hB, hBh, hco, ht3⟩ := id hS1
    k_steps
    · refine H6 X T hcc.1 hcc.2 hA hroom hun hhd hk hgd ham hfr hold gD1 hS1 fun D2 h2 gs2 dr2 tk2 gD2 hS2 => ?_
      clear F N ap ag dS dF dG dO hro dR hB hBh hco ht3 hS1
      k_steps
      exact hQ _ _ _ _ _ gD2 hS2
  · refine H6 X T hcc.1 hcc.2 hA hroom hun hhd hk hgd ham hfr hold gD hS fun D2 h2 gs2 dr2 tk2 gD2 hS2 => ?_
    clear F N ap ag dS dF dG dO hro dR hB hBh hco ht3 hS
    k_steps
    exact hQ _ _ _ _ _ gD2 hS2
end
end
example : ∀ w A s Q E, TZ w A s Q E → TZ w A s Q E := by intro w A s Q E h; w_top off; first | (walk1; fail) | exact h
section
inductive LawJ (w : World) (g : Heap) (I lS lD dp rr dx dh dg L : Addr) (oI ol op : Obj) (t1 t2 : Tok) (D : DD) (h : Heap) (gs : Array GenState) : Prop
  | mk (oh og oR oO oG oF oS : Obj) (ps ps3 : Array Value) (codes : List (Addr × Obj)) (m : Str → Option Value) (vS vF vG vO : Option Value) (h1 : Fr g L h (fun y => if y = Str.ofString "script" then some (Value.ref lS) else if y = Str.ofString "held" then some (Value.ref dh) else if y = Str.ofString "given" then some (Value.ref dg) else m y)) (h2 : News g L h (LNews I lD dp rr dx dh dg L oI ol op (instObj 281 dx) (refsDict w t1 t2 dg dp) oh og oR oO oG oF oS (tabObj ps) (tabObj ps3) codes)) (h3 : Apart I lD dp rr dx dh dg L codes) (h4 : AllBare gs) (h5 : oS.data = .cell vS) (h6 : oF.data = .cell vF) (h7 : oG.data = .cell vG) (h8 : oO.data = .cell vO) (h9 : oR.data = .cell (some (.ref rr))) (h10 : BObj w og D) (h11 : BObj w oh D) (h12 : CodesOk lamQ ps codes) (h13 : TriplesOk ps3.toList)
theorem LawJ.of {w : World} {g : Heap} {I lS lD dp rr dx dh dg L : Addr} {oI ol op : Obj} {t1 t2 : Tok} {D : DD} {k gd am fr : Bts} {old : Option Bts} {q kd : Int} {h : Heap} {gs : Array GenState} (hS : LawSt w g I lS lD dp rr dx dh dg L oI ol op t1 t2 D k gd am fr old q kd h gs) : LawJ w g I lS lD dp rr dx dh dg L oI ol op t1 t2 D h gs := by
  obtain ⟨oh, og, oR, oO, oG, oF, oS, ps, ps3, codes, m, tS, tF, tG, tA, tq, tk9, vO, F, N, ap, ag, dS, dF, dG, dO, hro, dR, hB, hBh, hco, ht3⟩ := hS
  obtain ⟨m9, F9⟩ := fr_names (a := .ref lS) (b := .ref dh) (c := .ref dg) F (by with_unfolding_all rfl) (by with_unfolding_all rfl) (by with_unfolding_all rfl)
  exact ⟨oh, og, oR, oO, oG, oF, oS, ps, ps3, codes, m9, _, _, _, _, F9, N, ap, ag, dS, dF, dG, dO, dR, hB, hBh, hco, ht3⟩
theorem off_iter {I lD dp rr dx dh dg L : Addr} {ol op or ox oh og oR oO oG oF oS o4 o1 : Obj} {codes : List (Addr × Obj)} (ap : Apart I lD dp rr dx dh dg L codes) (hl : @LT.lt Nat _ lD I) :
    ∀ p ∈ ((lD, ol) :: (dp, op) :: (rr, or) :: (dx, ox) :: (dh, oh) :: (dg, og) :: (L + 1 + 1 + 1 + 1 + 1, oR) :: (L + 1 + 1 + 1 + 1, oO) :: (L + 1 + 1 + 1, oG) :: (L + 1 + 1, oF) :: (L + 1, oS) :: (348, o4) :: (103, o1) :: codes : List (Addr × Obj)), p.1 ≠ I := by
  refine ncons (Nat.ne_of_lt hl) fun p hp => ?_
  rcases List.mem_append.mp (show p ∈ ([(dp, op), (rr, or), (dx, ox), (dh, oh), (dg, og), (L + 1 + 1 + 1 + 1 + 1, oR), (L + 1 + 1 + 1 + 1, oO), (L + 1 + 1 + 1, oG), (L + 1 + 1, oF), (L + 1, oS), (348, o4), (103, o1)] : List (Addr × Obj)) ++ codes from hp) with h | h
  · exact Nat.ne_of_lt (Nat.lt_trans (ap.low p.1 (List.mem_map_of_mem (f := Prod.fst) h)) hl)
  · exact ap.a12 p h I (.head _)
theorem apart_at {I J lD dp rr dx dh dg L : Addr} {codes : List (Addr × Obj)} (ap : Apart I lD dp rr dx dh dg L codes) (hl : @LE.le Nat _ lD J) (hc : ∀ p ∈ codes, @Ne Nat p.1 J) : Apart J lD dp rr dx dh dg L codes := by
  obtain ⟨a1, a2, a3, a4, a5, a6, a7, a8, a9, a10, a11, a12⟩ := ap
  refine ⟨a1, a2, a3, a4, a5, a6, a7, a8, a9, a10, hl, fun p hp b hb => ?_⟩
  rcases List.mem_cons.mp hb with rfl | hb
  · exact hc p hp
  · exact a12 p hp b (.tail _ hb)
def gTD.siteTag : Unit := ()
open gTD
open LG
example : True := by
  k_with "gTD execs cons" => (refine iter_stopF ?_)
  trivial
section
inductive JLw (w : World) (g h : Heap) (lS lD dp rr dx dh dg L : Addr) (ws : List Value) (op : Obj) (t1 t2 : Tok) (os : OsState) (i : Nat) (s' : Shared) : Prop
  | mk (h2 : Heap) (g2 : Array GenState) (d2 : Drawn) (tk2 : Nat) (oI : Obj) (D2 : DD) (e : s' = ⟨h2, g2, d2, tk2, os⟩) (h1 : oI.cls = .type "list_iterator") (h3 : oI.data = .fields #[.ref lD, .int i 0]) (h4 : Good D2) (h5 : LawJ w g h.objs.size lS lD dp rr dx dh dg L oI (W.listOf ws.toArray 0) op t1 t2 D2 h2 g2)
set_option maxHeartbeats 2000000 in
theorem law_loop : ∃ scope b, forOf 3 = some (scope, b) ∧ ∀ {p9 : Program} {lo9 : List Str} {w : World} {A : Around} {g h : Heap} {L fa lS lD dp rr dx dh dg : Addr} {op : Obj} {ws : List Value} {t1 t2 : Tok} {D : DD} {mg mb : Str → Option Value} {mean : ExcName → Option Value} {Q : Flow → Shared → Prop} {E : Value → Shared → Prop} {gs : Array GenState} {dr : Drawn} {tk : Nat} {os : OsState} {px : Pos},
    (hd.heap_1 w.params).In g → Top p9 lo9 mean mg mb g → CodeHd g 350 348 → CodeHd g 107 103 → A.frames = some [envOfC (Str.ofString "law") scope L fa (.ref 350)] → A.depth + 60 < recursionLimit → A.units + 600 < cLine → A.handled = none → (∀ v ∈ ws, ∃ n t, v = Value.int n t) → Good D → LawJ w g lD lS lD dp rr dx dh dg L (W.listOf ws.toArray 0) (W.listOf ws.toArray 0) op t1 t2 D h gs →
    (∀ D' h' gs' dr' tk', Good D' → LawJ w g lD lS lD dp rr dx dh dg L (W.listOf ws.toArray 0) (W.listOf ws.toArray 0) op t1 t2 D' h' gs' → Q .next ⟨h', gs', dr', tk', os⟩) →
    wpAny (model PG w) A (pyIter (.ref lD)) (fun it s₂ => ForIt PG w A (envOfC (Str.ofString "law") scope L fa (.ref 350)) (.Name (Str.ofString "n") px) b Q E it s₂) E ⟨h, gs, dr, tk, os⟩ := by
  obtain ⟨sc1, b1, i1, i2, e1, d1, H1⟩ := turn_pro
  have q1 := (e1 : some (_, _) = some (sc1, b1))
  cases q1
  have q2 := (d1 : [_, _] = [i1, i2])
  cases q2
  obtain ⟨sc2, b2, j1, j2, e2, d2, H2⟩ := turn_end
  have q3 := (e2 : some (_, _) = some (sc2, b2))
  cases q3
  have q4 := (d2 : [_, _] = [j1, j2])
  cases q4
  refine ⟨_, _, by rfl, ?_⟩
  intro p9 lo9 w A g h L fa lS lD dp rr dx dh dg op ws t1 t2 D mg mb mean Q E gs dr tk os px X T hc1 hc2 hA hroom hun hhd hws gD hJ hQ
  have hlD : @LT.lt Nat _ lD h.objs.size := by
    obtain ⟨oh, og, oR, oO, oG, oF, oS, ps, ps3, codes, m, vS, vF, vG, vO, F, N, -⟩ := hJ
    exact Heap.lt_size (N _ (.head _)).1
  have hls : h.IsList lD ws.toArray := by
    obtain ⟨oh, og, oR, oO, oG, oF, oS, ps, ps3, codes, m, vS, vF, vG, vO, F, N, -⟩ := hJ
    exact ⟨_, (N _ (.head _)).1, rfl, _, rfl⟩
  refine for_list (s := ⟨h, gs, dr, tk, os⟩) (l := lD) (vs := ws) hhd hls (fun _ _ _ _ h => go_name h)
    (J := JLw w g h lS lD dp rr dx dh dg L ws op t1 t2 os) ?h0 ?look ?step ?done
  case h0 =>
    obtain ⟨oh, og, oR, oO, oG, oF, oS, ps, ps3, codes, m, vS, vF, vG, vO, F, N, ap, ag, dS, dF, dG, dO, dR, hB, hBh, hco, ht3⟩ := hJ
    have hlt := fun p hp => Heap.lt_size (N p hp).1
    have kp : KeepAll h (h.push { cls := .type "list_iterator", data := .fields #[.ref lD, .int 0 0] }) := fun b o e => Heap.get?_push_of_some _ e
    refine ⟨_, _, _, _, { cls := .type "list_iterator", data := .fields #[.ref lD, .int 0 0] }, D, rfl, rfl, rfl, gD, oh, og, oR, oO, oG, oF, oS, ps, ps3, codes, m, vS, vF, vG, vO, F.keeps kp, ?_, apart_at ap (Nat.le_of_lt hlD) (fun p hp => Nat.ne_of_lt (hlt p (in_tail hp))), ag, dS, dF, dG, dO, dR, hB, hBh, hco, ht3⟩
    have N1 := news_more F (news_keepAll N kp) (Heap.get?_push_size h (o := { cls := .type "list_iterator", data := .fields #[.ref lD, .int 0 0] }) rfl) (fresh_size _)
    intro p hp
    rcases List.mem_cons.mp hp with rfl | hp
    · exact N1 _ (.head _)
    · exact N1 _ (.tail _ (.tail _ hp))
  case look =>
    rintro i s' ⟨h2, g2, d2, tk2, oI, D2, rfl, hI1, hI2, gD2, oh, og, oR, oO, oG, oF, oS, ps, ps3, codes, m, vS, vF, vG, vO, F, N, -⟩
    exact ⟨⟨oI, (N _ (.head _)).1, hI1, hI2⟩, ⟨_, (N _ (.tail _ (.head _))).1, rfl, _, rfl⟩⟩
  case step =>
    rintro Q9 E9 i v s' h' hv ⟨h2, g2, d2, tk2, oI, D2, rfl, hI1, hI2, gD2, oh, og, oR, oO, oG, oF, oS, ps, ps3, codes, m, vS, vF, vG, vO, F, N, ap, ag, dS, dF, dG, dO, dR, hB, hBh, hco, ht3⟩ ⟨oJ, hJ1, hJ2, hJ3⟩ hsb
    obtain ⟨n, tn, rfl⟩ := hws v (List.mem_of_getElem? hv)
    have F3 := fr_step F N hsb
    have N3 := news_step N (off_iter ap hlD) hsb hJ1
    clear F N hJ hls
    have hcc := And.intro hc1 hc2
    clear hc1 hc2
    k_steps
    show wpAny _ _ (execs _ _) _ _ _
    rename Fr _ _ _ _ => F4
    rename News _ _ _ _ => N4
    refine H1 X T F4 N4 ap ag hroom hun hhd dS dF dG dO dR hB hBh hco ht3 fun k gd am fr old h5 tk5 hk hgd ham hfr hold hS => ?_
    refine H2 X T hcc.1 hcc.2 hA hroom hun hhd hk hgd ham hfr hold gD2 hS fun D' h6 gs6 dr6 tk6 gD6 hS6 => ?_
    exact ⟨h6, gs6, dr6, tk6, oJ, D', rfl, hJ2, hJ3, gD6, LawJ.of hS6⟩
  case done =>
    rintro s' h' ⟨h2, g2, d2, tk2, oI, D2, rfl, hI1, hI2, gD2, oh, og, oR, oO, oG, oF, oS, ps, ps3, codes, m, vS, vF, vG, vO, F, N, ap, ag, dS, dF, dG, dO, dR, hB, hBh, hco, ht3⟩ hex
    have F3 := fr_last F N hex
    have N3 := news_last N (off_iter ap hlD) hex
    refine hQ D2 _ _ _ _ gD2 ⟨oh, og, oR, oO, oG, oF, oS, ps, ps3, codes, m, vS, vF, vG, vO, F3, ?_, apart_at ap (Nat.le_refl _) (fun p hp q => ?_), ag, dS, dF, dG, dO, dR, hB, hBh, hco, ht3⟩
    · intro p hp
      rcases List.mem_cons.mp hp with rfl | hp
      · exact N3 _ (.head _)
      · exact N3 _ hp
    · exact ap.a12 p hp lD (.tail _ (.head _)) q
end
end
example : ∀ w A s Q E, TZ w A s Q E → TZ w A s Q E := by intro w A s Q E h; w_top off; first | (walk1; fail) | exact h
section
def gTE.siteTag : Unit := ()
open gTE
open LG
example : True := by
  k_with "gTE call ref" => (k_here; (try dsimp only [List.nil_append, List.cons_append, List.append_nil]); (with_reducible show wpAny _ _ (call (Value.ref 311) _) _ _ _); k_dflt (refine' spec_pieces ?sX ?sT ?sb ?sr ?su ?sh ?_; (case sb => exact keep_base (by k_asm) (by k_asm)); (case sX => k_asm); (case sT => k_asm); (case sr => k_room); (case su => k_units); (case sh => k_asm)); (all_goals first | ((with_reducible intro l' vs' c' h' tk' hb' kk' eL' nL'); (k_dflt (have N' := news_more (by k_asm) (news_keepAll (by k_asm) kk') eL' nL')); (k_dflt (have F' := fr_keepAll (by k_asm) kk')); clear nL' eL' kk'; (try k_sweep))))
  k_with "gTE call ref" => (k_here; (try dsimp only [List.nil_append, List.cons_append, List.append_nil]); (with_reducible show wpAny _ _ (call (Value.ref 101) _) _ _ _); k_dflt (refine' spec_format ?sX ?sT ?sb ?sr ?su ?sh ?s6 ?_; (case sb => exact keep_base (by k_asm) (by k_asm)); (case sX => k_asm); (case sT => k_asm); (case sr => k_room); (case su => k_units); (case sh => k_asm); (case s6 => k_asm)); (all_goals first | ((with_reducible intro h' tk' kk'); (have F' := fr_keepAll (by k_asm) kk'); (have N' := news_keepAll (by k_asm) kk'); (try k_sweep))))
  k_with "gTE call ref" => (k_here; (try dsimp only [List.nil_append, List.cons_append, List.append_nil]); (with_reducible show wpAny _ _ (call (Value.ref 318) _) _ _ _); k_dflt (refine' spec_well ?sX ?sT ?sb ?sr ?su ?sh ?s6 ?_; (case sb => exact keep_base (by k_asm) (by k_asm)); (case sX => k_asm); (case sT => k_asm); (case sr => k_room); (case su => k_units); (case sh => k_asm); (case s6 => k_asm)); (all_goals first | ((with_reducible intro h' tk' kk'); (have F' := fr_keepAll (by k_asm) kk'); (have N' := news_keepAll (by k_asm) kk'); (try k_sweep))))
  trivial
theorem ints_len6 {ws : List Value} {xs : List Int} (h : IntsAre ws (List.take (min 9 xs.length - 3) (List.drop 3 xs))) : ws.length ≤ 6 := by
  have e : ws.length = (List.take (min 9 xs.length - 3) (List.drop 3 xs)).length := h.length
  rw [e, List.length_take]; exact Nat.le_trans (Nat.min_le_left _ _) (Nat.sub_le_sub_right (Nat.min_le_left 9 _) 3)
theorem pieces_len : ∀ p ∈ pieces22, p.length ≤ 5 := by decide +kernel
example : True := by
  k_with "gTE subscriptTail" => (k_here; (with_reducible show wpAny _ _ (subscriptTail _ _ (Value.ref _) (Value.int _ _)) _ _ _); (refine' item_Bm (News.isList (by k_asm) (by k_mem)) (by k_asm) ?i0 ?i1 ?iz ?_; (case i0 => exact fm_nn (by decide)); (case i1 => exact Int.lt_of_lt_of_le (fm_lt (by decide)) (by decide)); (case iz => decide)); intro p' t' hp'; (have hp5' := pieces_len _ (List.mem_of_getElem? hp')); (with_reducible rename News _ _ _ ((_, W.listOf _ _) :: _) => N9'); (have N' := news_drop N9'); clear N9'; (try k_sweep))
  k_with "gTE exec For Name Subscript cons nil" => (refine for_free (hE := by assumption) ?_)
  k_with "gTE exec For" => (refine for_free (hE := by assumption) ?_)
  k_with "gTE exec For Name List cons nil" => (with_unfolding_all refine for_free (hE := by assumption) ?_)
  k_with "gTE exec For Name Call cons nil" => (refine for_free (hE := by assumption) ?_)
  trivial
section
set_option maxHeartbeats 2000000 in
theorem tail_c : ∃ body scope, lawOf PySem.Challenge.pw_iy0008_01.main.body = some (body, scope) ∧ ∀ {p9 : Program} {lo9 : List Str} {w : World} {A : Around} {g h : Heap} {L fa lS : Addr} {ps ps3 : Array Value} {vs : List Value} {xs : List Int} {mg mb m : Str → Option Value} {mean : ExcName → Option Value} {Q : Flow → Shared → Prop} {E : Value → Shared → Prop} {gs : Array GenState} {dr : Drawn} {tk : Nat} {os : OsState}, (hd.heap_1 w.params).In g → Top p9 lo9 mean mg mb g → A.frames = some [envOfC (Str.ofString "law") scope L fa (.ref 350)] → A.depth + 60 < recursionLimit → A.units + 600 < cLine → A.handled = none → PassesOwn (model PG w) A (envOfC (Str.ofString "law") scope L fa (.ref 350)) E → g.IsList lS vs.toArray → IntsAre vs xs → xs.length ≤ 63 →
    Fr g L h (fun y => if y = Str.ofString "script" then some (Value.ref lS) else m y) → News g L h [(348, tabObj ps), (103, tabObj ps3)] → AllBare gs →
    (∀ h' dr' tk', KeepAll g h' → GrownAt 348 h' → GrownAt 103 h' → Q (.ret (.bool true)) ⟨h', gs, dr', tk', os⟩) → 
    wpAny (model PG w) A (execs (body.drop 11) (envOfC (Str.ofString "law") scope L fa (.ref 350))) Q E ⟨h, gs, dr, tk, os⟩ := by
  refine ⟨_, _, by rfl, ?_⟩
  intro p9 lo9 w A g h L fa lS ps ps3 vs xs mg mb m mean Q E gs dr tk os X T hA hroom hun hhd hPO hl hI hlen F N ag hQ
  have hrefl : KeepAll g g := fun _ _ e => e
  show wpAny _ _ (execs (_ :: _) _) _ _ _
  k_steps
  show wpAny _ _ (pyIter _) _ _ _
  rename Fr _ _ _ _ => F7
  rename News _ _ _ _ => N7
  rename IntsAre _ (List.take _ _) => I7
  have hlen6 := ints_len6 I7
  refine for_listL (by k_asm) F7 N7 (.head _) ⟨_, (N7 _ (.head _)).1, rfl, _, rfl⟩ (J := fun i m1 => ∃ (b : Bts) (t : Tok) (r : Option Value), m1 = (fun y => if y = Str.ofString "text" then some (Value.bytes b.toArray t) else if y = Str.ofString "n" then r else if y = Str.ofString "script" then some (Value.ref lS) else m y) ∧ b.length ≤ 5 * i) ⟨[], _, m (Str.ofString "n"), funext (by intro y9; by_cases c0 : y9 = Str.ofString "text"; (subst c0; with_unfolding_all rfl); by_cases c1 : y9 = Str.ofString "n"; (subst c1; with_unfolding_all rfl); simp only [if_neg c0, if_neg c1]), Nat.zero_le _⟩ (fun _ _ => False) (fun _ _ q => q.elim) ?_ ?_
  · rintro Q9 E9 i v it oi m1 h1 tk1 hRq hv ⟨b, t, r, rfl, hb⟩ F1 N1 hlt1
    obtain ⟨n, tn, rfl⟩ := ints_all I7 v (List.mem_of_getElem? hv)
    have hi6 : i < 6 := Nat.lt_of_lt_of_le (List.getElem?_eq_some_iff.mp hv).1 hlen6
    have hb64 : b.length ≤ 25 := by omega
    clear F7 N7 hQ
    refine turnP fun P hP => ?_
    k_steps
    all_goals (
      rename List.length _ ≤ 5 => hp5
      refine hP _ ⟨_, _, _, _, rfl, by k_asm, by k_asm, fun p9 hp9 => Nat.ne_of_lt (hlt1 p9 hp9), ⟨⟨_, _, _, funext (by intro y9; by_cases c0 : y9 = Str.ofString "text"; (subst c0; with_unfolding_all rfl); by_cases c1 : y9 = Str.ofString "n"; (subst c1; with_unfolding_all rfl); simp only [if_neg c0, if_neg c1]), by rw [List.length_append]; omega⟩, rfl⟩⟩)
  · rintro m' h' tk' ⟨b, t, r, rfl, hb⟩ F1 N1
    have hb30 : b.length ≤ 30 := by omega
    clear F7 N7
    k_steps
    show wpAny _ _ (pyIter _) _ _ _
    rename Fr _ _ _ _ => F8
    rename News _ _ _ _ => N8
    refine for_listL (by k_asm) F8 N8 (.head _) ⟨_, (N8 _ (.head _)).1, rfl, _, rfl⟩ (J := fun i m1 => ∃ (r1 r2 : Option Value), m1 = (fun y => if y = Str.ofString "answer" then r1 else if y = Str.ofString "one" then r2 else if y = Str.ofString "text" then some (Value.bytes b.toArray t) else if y = Str.ofString "n" then r else if y = Str.ofString "script" then some (Value.ref lS) else m y)) ⟨m (Str.ofString "answer"), m (Str.ofString "one"), funext (by intro y9; by_cases c0 : y9 = Str.ofString "answer"; (subst c0; with_unfolding_all rfl); by_cases c1 : y9 = Str.ofString "one"; (subst c1; with_unfolding_all rfl); simp only [if_neg c0, if_neg c1])⟩ (fun _ _ => False) (fun _ _ q => q.elim) ?_ ?_
    · rintro Q9 E9 i v it oi m1 h1 tk1 hRq hv ⟨r1, r2, rfl⟩ F1 N1 hlt1
      obtain ⟨b9, t9, rfl, hb9⟩ : ∃ (b9 : Bts) (t9 : Tok), v = Value.bytes b9.toArray t9 ∧ b9.length ≤ 64 := by
        have h3 := List.mem_of_getElem? hv
        simp only [List.mem_cons, List.not_mem_nil, or_false] at h3
        rcases h3 with rfl | rfl | rfl
        · exact ⟨_, _, rfl, by omega⟩
        · exact ⟨_, _, rfl, by simp only [List.length_cons]; omega⟩
        · exact ⟨_, _, rfl, by simp only [List.length_append, List.length_cons, List.length_nil]; omega⟩
      clear F8 N8 hQ hv
      refine turnP fun P hP => ?_
      k_steps
      · rename (fmtB b9 != wellB b9) = true => q9
        rw [fmt_well] at q9; simp at q9
      · exact hP _ ⟨_, _, _, _, rfl, by k_asm, by k_asm, fun p9 hp9 => Nat.ne_of_lt (hlt1 p9 hp9), ⟨⟨_, _, funext (by intro y9; by_cases c0 : y9 = Str.ofString "answer"; (subst c0; with_unfolding_all rfl); by_cases c1 : y9 = Str.ofString "one"; (subst c1; with_unfolding_all rfl); simp only [if_neg c0, if_neg c1])⟩, rfl⟩⟩
    · rintro m' h' tk' ⟨r1, r2, rfl⟩ F1 N1
      clear F8 N8
      k_steps
      exact hQ _ _ _ (Fr.keep F1) ⟨_, (N1 (348, _) (by k_mem)).1⟩ ⟨_, (N1 (103, _) (by k_mem)).1⟩
end
end
example : ∀ w A s Q E, TZ w A s Q E → TZ w A s Q E := by intro w A s Q E h; w_top off; first | (walk1; fail) | exact h
section
def gTF.siteTag : Unit := ()
open gTF
open LG
example : True := by
  k_with "gTF call ref" => (k_here; (try dsimp only [List.nil_append, List.cons_append, List.append_nil]); (with_reducible show wpAny _ _ (call (Value.ref 297) _) _ _ _); k_dflt (refine' spec_values ?sX ?sT ?sb ?sr ?su ?sh ?_; (case sb => exact keep_base (by k_asm) (by k_asm)); (case sX => k_asm); (case sT => k_asm); (case sr => k_room); (case su => k_units); (case sh => k_asm)); (all_goals first | ((with_reducible intro l' vs' c' h' tk' hb' kk' eL' nL'); (k_dflt (have N' := news_more (by k_asm) (news_keepAll (by k_asm) kk') eL' nL')); (k_dflt (have F' := fr_keepAll (by k_asm) kk')); clear nL' eL' kk'; (try k_sweep))))
  k_with "gTF call ref" => (k_here; (try dsimp only [List.nil_append, List.cons_append, List.append_nil]); (with_reducible show wpAny _ _ (call (Value.ref 290) _) _ _ _); k_dflt (refine' spec_names ?sX ?sT ?sb ?sr ?su ?sh ?_; (case sb => exact keep_base (by k_asm) (by k_asm)); (case sX => k_asm); (case sT => k_asm); (case sr => k_room); (case su => k_units); (case sh => k_asm)); (all_goals first | ((with_reducible intro l' vs' c' h' tk' hb' kk' eL' nL'); (k_dflt (have N' := news_more (by k_asm) (news_keepAll (by k_asm) kk') eL' nL')); (k_dflt (have F' := fr_keepAll (by k_asm) kk')); clear nL' eL' kk'; (try k_sweep))))
  k_with "gTF compareOp NotEq ref ref" => (refine iter_stopF ?_)
  k_with "gTF call builtin:sorted" => (refine iter_stopF ?_)
  k_with "gTF call builtin:dict.keys" => (k_here; k_dflt (refine' bkeys ?bF ?bN ?bp ?bB ?lo ?_; (case bF => k_asm); (case bN => k_asm); (case bp => k_mem); (case bB => k_asm); (case lo => k_asm); k_whole); intro h' v' F' N' l1; (try k_lt l1); (try k_sweep))
  trivial
section
set_option maxHeartbeats 2000000 in
theorem tail_4 : ∃ body scope st, lawOf PySem.Challenge.pw_iy0008_01.main.body = some (body, scope) ∧ subS body 4 = some st ∧ ∀ {p9 : Program} {lo9 : List Str} {w : World} {A : Around} {g h : Heap} {L fa lS lD dp rr dx dh dg : Addr} {ol op : Obj} {t1 t2 : Tok} {D : DD} {mg mb : Str → Option Value} {mean : ExcName → Option Value} {Q : Flow → Shared → Prop} {E : Value → Shared → Prop} {gs : Array GenState} {dr : Drawn} {tk : Nat} {os : OsState} {rest : List Stmt}, (hd.heap_1 w.params).In g → Top p9 lo9 mean mg mb g → CodeHd g 350 348 → CodeHd g 107 103 → A.frames = some [envOfC (Str.ofString "law") scope L fa (.ref 350)] → A.depth + 60 < recursionLimit → A.units + 600 < cLine → A.handled = none → PassesOwn (model PG w) A (envOfC (Str.ofString "law") scope L fa (.ref 350)) E → Good D → LawJ w g lD lS lD dp rr dx dh dg L ol ol op t1 t2 D h gs →
    (∀ h' dr' tk', LawJ w g lD lS lD dp rr dx dh dg L ol ol op t1 t2 D h' gs → wpAny (model PG w) A (execs rest (envOfC (Str.ofString "law") scope L fa (.ref 350))) Q E ⟨h', gs, dr', tk', os⟩) →
    wpAny (model PG w) A (execs (st :: rest) (envOfC (Str.ofString "law") scope L fa (.ref 350))) Q E ⟨h, gs, dr, tk, os⟩ := by
  refine ⟨_, _, _, by rfl, by rfl, ?_⟩
  intro p9 lo9 w A g h L fa lS lD dp rr dx dh dg ol op t1 t2 D mg mb mean Q E gs dr tk os rest X T hc1 hc2 hA hroom hun hhd hPO gD hJ hQ
  obtain ⟨oh, og, oR, oO, oG, oF, oS, ps, ps3, codes, m, vS, vF, vG, vO, F, N, ap, ag, dS, dF, dG, dO, dR, hB, hBh, hco, ht3⟩ := hJ
  obtain ⟨env9, he9, hk9, hf9⟩ : ∃ env9, A.frames = some [env9] ∧ env9.scope.kind = .function ∧ env9.frame = some L := ⟨_, hA, rfl, rfl⟩
  have loH := lo_dh ap
  have loG := lo_dg ap
  have gL6 := gD.len
  have gL100 : D.length ≤ 16777216 := Nat.le_trans gD.len100 (by decide)
  have hcc := And.intro hc1 hc2
  clear hc1 hc2
  have hrefl : KeepAll g g := fun _ _ e => e
  k_steps
  show wpAny _ _ (compareOp _ _ _) _ _ _
  rename Fr _ _ _ _ => F7
  rename News _ _ _ _ => N7
  refine ne_dicts N7 (a := dg) (b := dh) (oa := og) (ob := oh) (by k_mem) (by k_mem) hB hBh loG loH rfl (fun p hp => getB_self gD.2 p hp) (by omega) ?_
  k_steps
  show wpAny _ _ (call (Value.ref 123) _) _ _ _
  rename Fr _ _ _ _ => F7
  rename News _ _ _ _ => N7
  refine spec_keys X T (keep_base F7 base_self) (by omega) (by omega) hhd (refs_at3 no_frs F7 N7 hf9 base_self (by k_mem) (by k_mem) (by k_mem) hB loG) gD.vals gD.len100 (fun S oSS h1 tk1 kk eS nS bS => ?_)
  have F1 := fr_keepAll F7 kk
  have N1 := news_more F7 (news_keepAll N7 kk) eS nS
  clear F7 N7 kk eS nS
  k_steps
  show wpAny _ _ (call (Value.builtin "sorted") _) _ _ _
  rename Fr _ _ _ _ => F7
  rename News _ _ _ _ => N7
  refine sorted_set (by k_asm) F7 N7 (.head _) bS (by rw [List.length_map]; omega) fun h2 d2 tk2 D1 vs1 ks1 e1 F2 N2 l2 b1 p1 s1 => ?_
  clear F7 N7 l2
  k_steps
  show wpAny _ _ (call (Value.builtin "sorted") _) _ _ _
  rename Fr _ _ _ _ => F7
  rename News _ _ _ _ => N7
  refine sorted_view (d := dh) (o := oh) (by k_asm) F7 N7 (.head _) (by k_mem) hBh (by omega) fun h4 d4 tk4 D2 vs2 ks2 e2 F4 N4 l4 b2 p2 s2 => ?_
  clear F7 N7 l4
  k_steps
  show wpAny _ _ (compareOp _ _ _) _ _ _
  rename Fr _ _ _ _ => F7
  rename News _ _ _ _ => N7
  have ek := sortedB_unique (p1.trans p2.symm) s1 s2
  subst ek
  refine ne_lists (ks := ks1) ⟨_, (N7 (D1, _) (by k_mem)).1, rfl, _, rfl⟩ ⟨_, (N7 (D2, _) (by k_mem)).1, rfl, _, rfl⟩ b1 b2 (by omega) ?_
  k_steps
  rename Fr _ _ _ _ => F7
  rename News _ _ _ _ => N7
  exact hQ _ _ _ ⟨oh, og, oR, oO, oG, oF, oS, ps, ps3, codes, _, _, _, _, _, F7, fun p hp => N7 p (List.mem_append_right [_, _, _, _] hp), ap, ag, dS, dF, dG, dO, dR, hB, hBh, hco, ht3⟩
end
end
example : ∀ w A s Q E, TZ w A s Q E → TZ w A s Q E := by intro w A s Q E h; w_top off; first | (walk1; fail) | exact h
section
open LCt LCg
section
variable {w : World} {A : Around} {E : Value → Shared → Prop} {s : Shared} {g : Heap} {L : Addr} {m : Str → Option Value} {env : Env}
noncomputable def ViewSrc (w : World) (A : Around) (g : Heap) (L : Addr) (m : Str → Option Value) (env : Env) (ct elt : PySem.Expr) (x : Str) (scope : Scope) (cl : List (Str × Addr)) (y : Str) (Q : Flow → Shared → Prop) (xv : Value) (s₁ : Shared) : Prop :=
  ∃ v d o news D, xv = .ref v ∧ A.handled = none ∧ Fr g L s₁.heap m ∧ News g L s₁.heap news ∧ (v, viewObj d) ∈ news ∧ (d, o) ∈ news ∧ BObj w o D ∧ D.length ≤ 100 ∧
    ∀ kvs, KVs kvs D → ∀ hp, CompRestT PG w A g L m env ct elt x scope cl { s₁ with heap := hp } (fun nw => (d, o) ∈ nw) (fun i vv => ∃ k x, kvs[i]? = some (k, x) ∧ (bytesKind PG w).is k vv = true) (FinA g L m { s₁ with heap := hp } y Q) kvs.length 0 [] news
theorem assign_comp_view {ct elt iter : PySem.Expr} {x y : Str} {px py : Pos} {scope : Scope} {cl : List (Str × Addr)} {pos spos : Pos} {Q : Flow → Shared → Prop} (F₀ : Fr g L s.heap m) (hLe : env.locals = L)
    (hsw : swapsWith (.ListComp elt [⟨.Name x px, iter, [ct], 0⟩] scope pos) (some (.Name y py)) spos.line env = pure true)
    (hclos : closureFor scope env = pure cl) (hcell : ∀ z ∈ scope.names, z.2 ≠ .cell) (hkind : scope.kind = .function)
    (hnames : ∀ z ∈ scope.names, z.2 = .local → scope.names.lookup z.1 = some .local) (hx : scope.names.lookup x = some .local)
    (hy : env.kindOf y = some .local) (hp : (env.scope.kind == .class || (env.scope.kind == .module && env.locals != env.globals)) = false)
    (h : wpAny (model PG w) A (eval iter env) (ViewSrc w A g L m env ct elt x scope cl y Q) E s)
    (hs : ∀ x, foldedSetIterable iter env x = pure x := by intro _; rfl) :
    wpAny (model PG w) A (exec (.Assign [.Name y py] (.ListComp elt [⟨.Name x px, iter, [ct], 0⟩] scope pos) spos) env) Q E s := by
  subst hLe
  rw [exec_Assign_Name_used _ _ _ _ hsw]
  refine wpAny_bind (wpAny_standAt (wpAny_bind ?_))
  show wpAny _ A (do let _ ← comprehension (.ListComp elt [⟨.Name x px, iter, [ct], 0⟩] scope pos) scope env _ (newList []) false (eval iter env) (some (assign (.Name y py) env))) _ _ s
  refine wpAny_bind (wpAny_mono (wpAny_comprehension_free (use := some (assign (.Name y py) env)) (Q := fun _ s' => Q .next s') rfl hs hclos hkind hnames
    (wpAny_mono h (fun xv s₁ h₁ => ?_) fun _ _ e => e)) (fun _ s' hq => wpAny_pure (wpAny_pure hq)) fun _ _ e => e)
  obtain ⟨v, d, o, news, D, rfl, hh, F, N, mv, md, hB, hz, R⟩ := h₁
  obtain ⟨kvs, hd1, hk⟩ := id hB
  obtain ⟨ep, ha⟩ := KdkAt.of hd1
  have hdlt : d < s₁.heap.objs.size := Heap.lt_size (N _ md).1
  refine kdl_pyIter_keys ⟨_, (N _ mv).1, rfl, rfl⟩ (ha.dictAt (N _ md).1) ?_
  have up : ∀ b o, s₁.heap.get? b = some o → (s₁.heap.push { cls := .type "dict_keyiterator", data := .fields #[.ref d, .int 0 0, .int kvs.length 0, .int ep 0] }).get? b = some o := fun b o e => Heap.get?_push_of_some _ e
  refine block_T (Walks.dictKeys (knd := bytesKind PG w) hh s₁.heap.objs.size d (Nat.ne_of_lt hdlt) kvs ep) (by rw [sizeLine_eq, hk.length]; omega) (fun i h st => by obtain ⟨o, e, _⟩ := st.1; exact ⟨o, e⟩)
    (S := fun nw => (d, o) ∈ nw) (fun i h h' oI nw st e e' _ N' hS => ⟨st.1.at fun o2 q => by rw [e] at q; cases q; exact e', ha.dictAt (N' _ hS).1⟩) hcell hkind hx ⟨⟨_, Heap.get?_push_size _ rfl, rfl, rfl⟩, (ha.dictAt (N _ md).1).push _⟩ (fun b hb => ?_)
    (F.keeps up) (N.grown up) (Nat.ne_of_lt F.ns.lt) (next_is_new F) (fun p hp => Nat.ne_of_lt (Heap.lt_size (N p hp).1)) md (R kvs hk _) ?_
  · show b < (s₁.heap.push _).objs.size
    rw [Heap.size_push]
    rcases List.mem_cons.mp hb with rfl | hb
    · exact Nat.lt_succ_self _
    · rw [List.mem_singleton.mp hb]; exact Nat.lt_succ_of_lt hdlt
  · intro D9 C h' tk m' ys news' F' N' o1 hn hC₀ hD₀ hCL hDL hCD offC fin
    show wpAny _ A (assign (.Name y py) env (.ref D9)) _ _ _
    refine wpAny_assign_Name (wpAny_storeName_local hy F'.ns (fun h₂ hn₂ hs₂ => ?_) hp)
    have hL₀ : g.get? env.locals = none := Heap.get?_none_of_le F'.above
    have F₂ : Fr g env.locals h₂ (fun z => if z = y then some (.ref D9) else m z) := ⟨hn₂, fun b o e => hs₂.extBut b o (fun q => by rw [q, hL₀] at e; cases e) (F'.keep b o e), F'.above⟩
    refine ⟨m', hn.sameBut hs₂ hCL, fun h'' hs'' => fin D9 h'' _ (F₂.change hs'' hCL hC₀) (fun p hp => ?_) o1⟩
    have z : h₂.get? p.1 = some p.2 := hs₂.extBut _ _ (N' p hp).2.1 (N' p hp).1
    refine ⟨hs''.extBut _ _ ?_ z, (N' p hp).2⟩
    rcases List.mem_cons.mp hp with rfl | hp
    · exact Ne.symm hCD
    · exact offC p hp
theorem view_rest {ct elt : PySem.Expr} {x : Str} {scope : Scope} {cl : List (Str × Addr)} {S : List (Addr × Obj) → Prop} {Fin : List Value → List (Addr × Obj) → Prop} {news : List (Addr × Obj)} {kvs : List (Bts × Value)} (f : Bts → Bool) (c : Bts → Bts) (hS : S news)
    (turn : ∀ k t I oI C oC D m₂ ys h tk (E' : Value → Shared → Prop) (R1 R2 : Value → List (Addr × Obj) → Prop), k ∈ kvs.map (·.1) → NsObj oC m₂ → m₂ x = some (.bytes k.toArray t) → Fr g L h m → News g L h ((I, oI) :: (C, oC) :: (D, lst ys) :: news) → Off3 I C D news → ((@Ne Nat I C) ∧ (@Ne Nat I D) ∧ (@Ne Nat C D)) →
      (f k = true → ∀ t', R1 (.bytes (c k).toArray t') news) → (f k = false → R2 .none news) →
      wpAny (model PG w) A (isTrue ct (compEnvC scope cl C env) (eval ct (compEnvC scope cl C env))) (fun ok s' => if ok = true then
        wpAny (model PG w) A (eval elt (compEnvC scope cl C env)) (CompEnd g L m { s with heap := h, toks := tk } I oI C oC D (lst ys) S R1) E' s'
        else CompEnd g L m { s with heap := h, toks := tk } I oI C oC D (lst ys) S R2 Value.none s') E' { s with heap := h, toks := tk })
    (fin : ∀ ys, BytesAre ys (((kvs.map (·.1)).filter f).map c) → Fin ys news) :
    CompRestT PG w A g L m env ct elt x scope cl s S (fun i vv => ∃ k x, kvs[i]? = some (k, x) ∧ (bytesKind PG w).is k vv = true) Fin kvs.length 0 [] news := by
  have key : ∀ (j i : Nat) (ys : List Value), i + j = kvs.length → BytesAre ys ((((kvs.take i).map (·.1)).filter f).map c) → CompRestT PG w A g L m env ct elt x scope cl s S (fun i vv => ∃ k x, kvs[i]? = some (k, x) ∧ (bytesKind PG w).is k vv = true) Fin j i ys news := by
    intro j
    induction j with
    | zero =>
      intro i ys hi hy
      refine CompRestT.zero (fin ys ?_)
      rw [show i = kvs.length from by omega, List.take_length] at hy
      exact hy
    | succ j ih =>
      intro i ys hi hy
      refine CompRestT.succ ?_
      rintro v I oI C oC D m₂ h tk E' ⟨k, xx, hki, hkv⟩ hC hx F N off ne
      obtain ⟨t, rfl⟩ := isBytes_shape hkv
      have hlt : i < kvs.length := by omega
      have e1 : (kvs.take (i + 1)).map (·.1) = (kvs.take i).map (·.1) ++ [k] := by
        rw [List.take_add_one, hki, List.map_append]; rfl
      refine turn k t I oI C oC D m₂ ys h tk E' _ _ (List.mem_map.mpr ⟨_, List.mem_of_getElem? hki, rfl⟩) hC hx F N off ne (fun hf t' => ?_) (fun hf => ?_)
      · refine ih (i + 1) _ (by omega) ?_
        rw [e1, List.filter_append, List.map_append]
        have : List.map c (List.filter f [k]) = [c k] := by simp [hf]
        rw [this]
        exact hy.snoc _ _
      · refine ih (i + 1) _ (by omega) ?_
        rw [e1, List.filter_append, List.map_append]
        have : List.map c (List.filter f [k]) = [] := by simp [hf]
        rw [this, List.append_nil]
        exact hy
  exact key kvs.length 0 [] (by omega) .nil
end
end
example : ∀ w A s Q E, TZ w A s Q E → TZ w A s Q E := by intro w A s Q E h; w_top off; first | (walk1; fail) | exact h
section
section
variable {w : World} {A : Around} {E : Value → Shared → Prop} {s : Shared} {env : Env} {Q : Flow → Shared → Prop} {x : Str} {px : Pos} {body : List Stmt} {g : Heap} {L S : Addr} {m : Str → Option Value} {news : List (Addr × Obj)} {oS : Obj} {ks : List Bts}
inductive SetTurnG (L : Addr) (s : Shared) (it T : Addr) (oi oT : Obj) (d : Drawn) (J : Heap → (Str → Option Value) → List (Addr × Obj) → Prop) (s4 : Shared) : Prop
  | mk (g4 h4 : Heap) (tk4 : Nat) (m4 : Str → Option Value) (news4 : List (Addr × Obj)) (e : s4 = { s with heap := h4, drawn := d, toks := tk4 }) (F : Fr g4 L h4 m4) (N : News g4 L h4 ((it, oi) :: (T, oT) :: news4)) (ne : ∀ p ∈ news4, p.1 ≠ it) (j : J g4 m4 news4)
inductive SetAtG (w : World) (L : Addr) (s : Shared) (it S T : Addr) (d : Drawn) (ks : List Bts) (J : List Bts → Heap → (Str → Option Value) → List (Addr × Obj) → Prop) (i : Nat) (s' : Shared) : Prop
  | mk (g2 h2 : Heap) (tk2 : Nat) (m2 : Str → Option Value) (n2 : List (Addr × Obj)) (e : s' = { s with heap := h2, drawn := d, toks := tk2 }) (F : Fr g2 L h2 m2) (N : News g2 L h2 n2) (ne : ∀ p ∈ n2, p.1 ≠ it) (x : IsSetIter w h2 it S T ks i) (t : ∃ oT, h2.get? T = some oT) (j : J (ks.take i) g2 m2 n2)
theorem for_setG (hh : A.handled = none) (F : Fr g L s.heap m) (N : News g L s.heap news) (hS : (S, oS) ∈ news) (hB : SetB w oS ks) (hz : ks.length ≤ 1000)
    (J : List Bts → Heap → (Str → Option Value) → List (Addr × Obj) → Prop) (hJS : ∀ dn g1 m1 n1, J dn g1 m1 n1 → (S, oS) ∈ n1) (h0 : J [] g m news)
    (step : ∀ (Q' : Flow → Shared → Prop) (E' : Value → Shared → Prop) dn k rest t g1 m1 news1 it oi T oT h1 d1 tk1, (dn ++ k :: rest).Perm ks → J dn g1 m1 news1 → Fr g1 L h1 m1 → News g1 L h1 ((it, oi) :: (T, oT) :: news1) → (∀ p ∈ news, @LT.lt Nat _ p.1 it) → (T = S ∨ ∀ p ∈ news, @LT.lt Nat _ p.1 T) → T ≠ it → (∀ p ∈ news1, p.1 ≠ it) → @LE.le Nat _ s.heap.objs.size it → (T = S ∨ @LE.le Nat _ s.heap.objs.size T) →
      wpAny (model PG w) A (assign (.Name x px) env (.bytes k.toArray t)) (fun _ s₃ => wpAny (model PG w) A (execs body env) (TurnTo Q' (SetTurnG L s it T oi oT d1 (J (dn ++ [k])))) E' s₃) E' { s with heap := h1, drawn := d1, toks := tk1 })
    (fin : ∀ g' m' news' h' d' tk' ks', ks'.Perm ks → J ks' g' m' news' → Fr g' L h' m' → News g' L h' news' → Q .next { s with heap := h', drawn := d', toks := tk' }) :
    wpAny (model PG w) A (pyIter (.ref S)) (fun it s₂ => ForIt PG w A env (.Name x px) body Q E it s₂) E s := by
  refine iter_set (N _ hS).1 hB hz fun it T hp d' ks' hperm hk hit hTn hTo hTit hSit hle x0 => ?_
  have hLlt := F.ns.lt
  have hnit : ∀ p ∈ news, @LT.lt Nat _ p.1 it := fun p hp' => Nat.lt_of_lt_of_le (Heap.lt_size (N p hp').1) hle
  have gn : ∀ {g1 h1 : Heap} {m1 : Str → Option Value}, Fr g1 L h1 m1 → ∀ b, s.heap.objs.size ≤ b → g1.get? b = none := fun F1 b hb => Heap.get?_none_of_le (Nat.le_trans F1.above (Nat.le_of_lt (Nat.lt_of_lt_of_le hLlt hb)))
  have hitL : it ≠ L := Nat.ne_of_gt (Nat.lt_of_lt_of_le hLlt hle)
  have hTL : T ≠ L := by
    rcases hTn with rfl | e
    · exact (N _ hS).2.1
    · rw [e]; exact Nat.ne_of_gt hLlt
  have gT : ∀ {g1 h1 : Heap} {m1 : Str → Option Value} {n1 : List (Addr × Obj)}, Fr g1 L h1 m1 → News g1 L h1 n1 → (S, oS) ∈ n1 → g1.get? T = none := fun F1 N1 hS1 => by
    rcases hTn with rfl | e
    · exact (N1 _ hS1).2.2
    · rw [e]; exact gn F1 _ (Nat.le_refl _)
  have hTlt : T = S ∨ ∀ p ∈ news, @LT.lt Nat _ p.1 T := by
    rcases hTn with e | e
    · exact .inl e
    · exact .inr fun p hp' => by rw [e]; exact Heap.lt_size (N p hp').1
  refine for_walks (set_walks (ks := ks') hh hTit hSit) (fun _ _ _ _ h => go_name h) (J := SetAtG w L s it S T d' ks' J) ?_ ?_ ?_ ?_
  · exact ⟨g, hp, s.toks, m, news, rfl, F.keeps hk, news_keepAll N hk, fun p hp' => Nat.ne_of_lt (hnit p hp'), x0, hTo, h0⟩
  · rintro i s' ⟨g2, h2, tk2, m2, n2, rfl, F2, N2, ne2, x2, tT, hJ⟩
    exact x2
  · rintro Q' E' i v s' h' tk hi ⟨k, t, hki, rfl⟩ ⟨g2, h2, tk2, m2, n2, rfl, F2, N2, ne2, x2, tT, hJ⟩ x1 hk1
    have F1 : Fr g2 L h' m2 := ⟨F2.ns.at' fun o e => hk1 _ _ (fun hm => hitL (List.mem_singleton.mp hm).symm) e, fun b o e => hk1 _ _ (fun hm => by rw [List.mem_singleton.mp hm, gn F2 _ hle] at e; cases e) (F2.keep _ _ e), F2.above⟩
    have N1 : News g2 L h' n2 := fun p hp' => ⟨hk1 _ _ (fun hm => ne2 p hp' (List.mem_singleton.mp hm)) (N2 p hp').1, (N2 p hp').2⟩
    obtain ⟨oi, hoi, x1r⟩ : ∃ oi, h'.get? it = some oi ∧ True := by obtain ⟨oi, _, _, _, _, _, a, _⟩ := x1; exact ⟨oi, a, trivial⟩
    obtain ⟨oT, hoT⟩ := tT
    replace hoT := hk1 _ _ (fun hm => hTit (List.mem_singleton.mp hm)) hoT
    have hlt : i < ks'.length := hi
    have hki2 : ks'[i] = k := by rw [List.getElem?_eq_getElem hlt] at hki; exact Option.some.inj hki
    refine wpAny_mono (step Q' E' (ks'.take i) k (ks'.drop (i + 1)) t g2 m2 n2 it oi T oT h' d' tk ?_ hJ F1 (fun p hp' => ?_) hnit hTlt hTit ne2 hle (hTn.imp id fun e => Nat.le_of_eq e.symm)) (fun _ s3 h3 => wpAny_mono h3 (fun f s4 h4 => ?_) fun _ _ e => e) fun _ _ e => e
    · rw [← hki2, ← List.drop_eq_getElem_cons hlt, List.take_append_drop]; exact hperm
    · rcases List.mem_cons.mp hp' with rfl | hp'
      · exact ⟨hoi, hitL, gn F1 _ hle⟩
      rcases List.mem_cons.mp hp' with rfl | hp'
      · exact ⟨hoT, hTL, gT F1 N1 (hJS _ _ _ _ hJ)⟩
      · exact N1 p hp'
    · have tr : SetTurnG L s it T oi oT d' (J (ks'.take i ++ [k])) s4 → SetAtG w L s it S T d' ks' J (i + 1) s4 := by
        rintro ⟨g4, hp4, tk4, m4, n4, e4, F4, N4, ne4, hJ4⟩
        refine ⟨g4, hp4, tk4, m4, n4, e4, F4, fun p hp' => N4 p (.tail _ (.tail _ hp')), ne4, x1.at fun b hb o e => ?_, ⟨oT, (N4 _ (.tail _ (.head _))).1⟩, by rw [← List.take_append_getElem hlt, hki2]; exact hJ4⟩
        rcases List.mem_cons.mp hb with rfl | hb
        · rw [hoi] at e; cases e; exact (N4 _ (.head _)).1
        rcases List.mem_cons.mp hb with rfl | hb
        · rw [(N1 _ (hJS _ _ _ _ hJ)).1] at e; cases e; exact (N4 _ (.tail _ (.tail _ (hJS _ _ _ _ hJ4)))).1
        · rw [List.mem_singleton.mp hb] at e ⊢; rw [hoT] at e; cases e; exact (N4 _ (.tail _ (.head _))).1
      cases f with
      | next => exact tr h4
      | cont => exact tr h4
      | brk => exact h4
      | ret v => exact h4
  · rintro s' h' tk ⟨g2, h2, tk2, m2, n2, rfl, F2, N2, ne2, x2, tT, hJ⟩ hk1
    rw [List.take_length] at hJ
    refine fin g2 m2 n2 h' d' tk ks' hperm hJ ⟨F2.ns.at' fun o e => hk1 _ _ (fun hm => hitL (List.mem_singleton.mp hm).symm) e, fun b o e => hk1 _ _ (fun hm => by rw [List.mem_singleton.mp hm, gn F2 _ hle] at e; cases e) (F2.keep _ _ e), F2.above⟩ fun p hp' => ⟨hk1 _ _ (fun hm => ne2 p hp' (List.mem_singleton.mp hm)) (N2 p hp').1, (N2 p hp').2⟩
inductive SetTurn (g : Heap) (L : Addr) (s : Shared) (it T : Addr) (oi oT : Obj) (d : Drawn) (J : (Str → Option Value) → List (Addr × Obj) → Prop) (s4 : Shared) : Prop
  | mk (h4 : Heap) (tk4 : Nat) (m4 : Str → Option Value) (news4 : List (Addr × Obj)) (e : s4 = { s with heap := h4, drawn := d, toks := tk4 }) (F : Fr g L h4 m4) (N : News g L h4 ((it, oi) :: (T, oT) :: news4)) (ne : ∀ p ∈ news4, p.1 ≠ it) (j : J m4 news4)
theorem SetTurn.up {it T : Addr} {oi oT : Obj} {d : Drawn} {J : (Str → Option Value) → List (Addr × Obj) → Prop} {s4 : Shared} : SetTurn g L s it T oi oT d J s4 → SetTurnG L s it T oi oT d (fun g1 m1 n1 => g1 = g ∧ J m1 n1) s4
  | ⟨h4, tk4, m4, n4, e, F, N, ne, j⟩ => ⟨g, h4, tk4, m4, n4, e, F, N, ne, rfl, j⟩
theorem for_set (hh : A.handled = none) (F : Fr g L s.heap m) (N : News g L s.heap news) (hS : (S, oS) ∈ news) (hB : SetB w oS ks) (hz : ks.length ≤ 1000)
    (J : List Bts → (Str → Option Value) → List (Addr × Obj) → Prop) (hJS : ∀ dn m1 n1, J dn m1 n1 → (S, oS) ∈ n1) (h0 : J [] m news)
    (step : ∀ (Q' : Flow → Shared → Prop) (E' : Value → Shared → Prop) dn k rest t m1 news1 it oi T oT h1 d1 tk1, (dn ++ k :: rest).Perm ks → J dn m1 news1 → Fr g L h1 m1 → News g L h1 ((it, oi) :: (T, oT) :: news1) → (∀ p ∈ news, @LT.lt Nat _ p.1 it) → (T = S ∨ ∀ p ∈ news, @LT.lt Nat _ p.1 T) → T ≠ it → (∀ p ∈ news1, p.1 ≠ it) →
      wpAny (model PG w) A (assign (.Name x px) env (.bytes k.toArray t)) (fun _ s₃ => wpAny (model PG w) A (execs body env) (TurnTo Q' (SetTurn g L s it T oi oT d1 (J (dn ++ [k])))) E' s₃) E' { s with heap := h1, drawn := d1, toks := tk1 })
    (fin : ∀ m' news' h' d' tk' ks', ks'.Perm ks → J ks' m' news' → Fr g L h' m' → News g L h' news' → Q .next { s with heap := h', drawn := d', toks := tk' }) :
    wpAny (model PG w) A (pyIter (.ref S)) (fun it s₂ => ForIt PG w A env (.Name x px) body Q E it s₂) E s := by
  refine for_setG hh F N hS hB hz (fun dn g1 m1 n1 => g1 = g ∧ J dn m1 n1) (fun dn g1 m1 n1 h => hJS dn m1 n1 h.2) ⟨rfl, h0⟩ ?_ ?_
  · rintro Q' E' dn k rest t g1 m1 n1 it oi T oT h1 d1 tk1 hp ⟨rfl, hJ⟩ F1 N1 a b c d _ _
    refine wpAny_mono (step Q' E' dn k rest t m1 n1 it oi T oT h1 d1 tk1 hp hJ F1 N1 a b c d) (fun _ s3 h3 => wpAny_mono h3 (fun f s4 h4 => ?_) fun _ _ e => e) fun _ _ e => e
    cases f with
    | next => exact SetTurn.up h4
    | cont => exact SetTurn.up h4
    | brk => exact h4
    | ret v => exact h4
  · rintro g' m' n' h' d' tk' ks' hp ⟨rfl, hJ⟩ F1 N1
    exact fin m' n' h' d' tk' ks' hp hJ F1 N1
end
end
example : ∀ w A s Q E, TZ w A s Q E → TZ w A s Q E := by intro w A s Q E h; w_top off; first | (walk1; fail) | exact h
section
noncomputable def pfxB : Bts := [114, 101, 102, 115, 47, 104, 101, 97, 100, 115]
theorem sub_step {ks dn : List Bts} {k : Bts} (h : ∀ x, x ∈ ks ↔ ∃ k ∈ dn, pfxB.isPrefixOf k = true ∧ x = k.drop 11) (hk : pfxB.isPrefixOf k = true) : ∀ x, x ∈ (if k.drop 11 ∈ ks then ks else ks ++ [k.drop 11]) ↔ ∃ k' ∈ dn ++ [k], pfxB.isPrefixOf k' = true ∧ x = k'.drop 11 := by
  intro x
  have e1 : x ∈ (if k.drop 11 ∈ ks then ks else ks ++ [k.drop 11]) ↔ (x ∈ ks ∨ x = k.drop 11) := by
    split
    · rename_i hm
      exact ⟨.inl, fun q => q.elim id fun q => q ▸ hm⟩
    · simp
  rw [e1, h x]
  constructor
  · rintro (⟨k', a, b, c⟩ | rfl)
    · exact ⟨k', List.mem_append_left _ a, b, c⟩
    · exact ⟨k, by simp, hk, rfl⟩
  · rintro ⟨k', a, b, c⟩
    rcases List.mem_append.mp a with a | a
    · exact .inl ⟨k', a, b, c⟩
    · rw [List.mem_singleton.mp a] at c; exact .inr c
theorem sub_skip {ks dn : List Bts} {k : Bts} (h : ∀ x, x ∈ ks ↔ ∃ k ∈ dn, pfxB.isPrefixOf k = true ∧ x = k.drop 11) (hk : pfxB.isPrefixOf k = false) : ∀ x, x ∈ ks ↔ ∃ k' ∈ dn ++ [k], pfxB.isPrefixOf k' = true ∧ x = k'.drop 11 := by
  intro x
  rw [h x]
  constructor
  · rintro ⟨k', a, b, c⟩; exact ⟨k', List.mem_append_left _ a, b, c⟩
  · rintro ⟨k', a, b, c⟩
    rcases List.mem_append.mp a with a | a
    · exact ⟨k', a, b, c⟩
    · rw [List.mem_singleton.mp a, hk] at b; cases b
theorem nodup_if {ks : List Bts} {x : Bts} (h : ks.Nodup) : (if x ∈ ks then ks else ks ++ [x]).Nodup := by
  split
  · exact h
  · rename_i hm
    exact List.nodup_append.mpr ⟨h, by simp, fun a ha b hb e => hm (by rw [List.mem_singleton.mp hb] at e; exact e ▸ ha)⟩
theorem len_if {ks dn : List Bts} {x k : Bts} (h : ks.length ≤ dn.length) : (if x ∈ ks then ks else ks ++ [x]).length ≤ (dn ++ [k]).length := by
  rw [List.length_append]
  split
  · exact Nat.le_succ_of_le h
  · rw [List.length_append]; exact Nat.add_le_add_right h _
def gK3.siteTag : Unit := ()
open gK3
section
variable {p9 : Program} {lo9 : List Str} {w : World} {A : Around} {s : Shared} {base : Heap} {mg mb : Str → Option Value} {mean : ExcName → Option Value} {Q E : Value → Shared → Prop}
example : True := by
  k_with "gK3 call builtin:dict.keys" => (k_here; k_dflt (refine' bkeys ?bF ?bN ?bp ?bB ?lo ?_; (case bF => k_asm); (case bN => k_asm); (case bp => k_mem); (case bB => k_asm); (case lo => k_asm); k_whole); intro h' v' F' N' l1; (try k_lt l1); (try k_sweep))
  k_with "gK3 call type:set" => (k_here; (with_reducible show wpAny _ _ (call (Value.type _) [Value.ref _]) _ _ _); k_dflt (refine' bset_view ?bh ?bF ?bN ?bv ?bp ?bB ?bz ?_; (case bh => k_asm); (case bF => k_asm); (case bN => k_asm); (case bv => k_mem); (case bp => k_mem); (case bB => k_asm); (case bz => k_asm); k_whole); intro h' S' oS' tk' F' N' l1 hS'; (try k_lt l1); (try k_sweep))
  k_with "gK3 call type:set" => (k_here; (with_reducible show wpAny _ _ (call (Value.type _) []) _ _ _); k_dflt (refine' set_nilN ?bF ?bN ?_; (case bF => k_asm); (case bN => k_asm); k_whole); intro h' K F' N' lK; (try k_lt lK); (try k_sweep))
  k_with "gK3 call type:set nil nil" => (k_here; k_dflt (refine' set_nilN ?bF ?bN ?_; (case bF => k_asm); (case bN => k_asm); k_whole); intro h' K F' N' lK; (try k_lt lK); (try k_sweep))
  k_with "gK3 getMethod ref" => (k_here; (with_reducible show wpAny _ _ (getMethod (Value.ref _) (PySem.Str.ofString "add") _) _ _ _); k_dflt (refine' addM ?bN ?bp ?bS ?_; (case bN => k_asm); (case bp => k_mem); (case bS => k_asm); k_whole))
  k_with "gK3 call builtin:set.add" => (k_here; k_dflt (refine' addN ?bF ?bN ?bU ?bS ?bz ?_; (case bF => k_asm); (case bN => k_asm); (case bU => k_updF); (case bS => k_asm); (case bz => k_asm); k_whole); intro h' o' F' N' hS'; (try dsimp only at N'); (try k_sweep))
  k_with "gK3 call ref" => (k_here; (try dsimp only [List.nil_append, List.cons_append, List.append_nil]); (with_reducible show wpAny _ _ (call (Value.ref 229) _) _ _ _); k_dflt (refine' spec_allkeys ?sX ?sT ?sb ?sr ?su ?sh ?sR ?sV ?sD ?_; (case sb => exact keep_base (by k_asm) (by k_asm)); (case sX => k_asm); (case sT => k_asm); (case sr => k_room); (case su => k_units); (case sh => k_asm); (case sR => ktr_unf); (case sV => k_asm); (case sD => k_asm)); (all_goals first | ((with_reducible intro S oS h9 tk9 kk9 eS nS bS); (k_dflt (have neS := allNe (by k_asm) (by k_asm) nS)); (simp only [AllNe, and_true] at neS); (k_dflt (have N9 := news_more (by k_asm) (news_keepAll (by k_asm) kk9) eS nS)); (k_dflt (have F9 := fr_keepAll (by k_asm) kk9)); (try k_sweep))))
  k_with "gK3 call ref" => (k_here; (try dsimp only [List.nil_append, List.cons_append, List.append_nil]); (with_reducible show wpAny _ _ (call (Value.ref 67) _) _ _ _); k_dflt (refine' spec_Ref ?sX ?sT ?sb ?sr ?su ?sh ?_; (case sb => exact keep_base (by k_asm) (by k_asm)); (case sX => k_asm); (case sT => k_asm); (case sr => k_room); (case su => k_units); (case sh => k_asm)); (all_goals first | ((with_reducible intro h' tk' kk'); (have F' := fr_keepAll (by k_asm) kk'); (have N' := news_keepAll (by k_asm) kk'); (try k_sweep))))
  trivial
theorem iter_stopK {M : Model} {A : Around} {v : Value} {Q : Value → Shared → Prop} {E : Value → Shared → Prop} {s : Shared} (h : Stop (wpAny M A (pyIter v) Q E s)) : wpAny M A (pyIter v) Q E s := h
example : True := by
  k_with "gK3 exec For Name Call cons nil" => (with_unfolding_all refine for_free ?_)
  k_with "gK3 exec For Name Name cons nil" => (with_unfolding_all refine for_free ?_)
  k_with "gK3 pyIter ref" => (refine iter_stopK ?_)
  trivial
inductive JSu (w : World) (r dg dx S K : Addr) (oS o : Obj) (t1 t2 tb : Tok) (dp : Addr) (dn : List Bts) (m1 : Str → Option Value) (n1 : List (Addr × Obj)) : Prop
  | mk (oK : Obj) (ks : List Bts) (rn : Option Value) (tl : Tok) (em : m1 = (fun y => if y = Str.ofString "refname" then rn else if y = Str.ofString "base_len" then some (Value.int (((List.length [114, 101, 102, 115, 47, 104, 101, 97, 100, 115] : Nat) : Int) + 1) tl) else if y = Str.ofString "keys" then some (Value.ref K) else List.lookup y [(Str.ofString "self", Value.ref r), (Str.ofString "base", Value.bytes (List.toArray [114, 101, 102, 115, 47, 104, 101, 97, 100, 115]) tb)].reverse)) (en : n1 = [(S, oS), (K, oK), (dg, o), (r, instObj 281 dx), (dx, refsDict w t1 t2 dg dp)]) (hB : SetB w oK ks) (hn : ks.Nodup) (hl : ks.length ≤ dn.length) (hd : dn.length ≤ 100) (hm : ∀ x, x ∈ ks ↔ ∃ k ∈ dn, pfxB.isPrefixOf k = true ∧ x = k.drop 11)
set_option maxHeartbeats 4000000 in
theorem spec_subkeys {tb : Tok} {fs : List Env} {r dg : Addr} {D : DD} (X : (hd.heap_1 w.params).In base) (T : Top p9 lo9 mean mg mb base) (hb : KeepAll base s.heap) (hroom : A.depth + 10 < recursionLimit) (hun : A.units + 100 < cLine) (hhd : A.handled = none) (hR : RefsAt w base fs s.heap r dg D) (hV : ValsOk D) (hD : D.length ≤ 100) (hkl : ∀ k ∈ D.map (·.1), k.length ≤ 64)
    (h : ∀ S oS h' d' tk' ks, KeepAll s.heap h' → h'.get? S = some oS → s.heap.get? S = none → SetB w oS ks → ks.Nodup → (∀ x, x ∈ ks ↔ ∃ k ∈ D.map (·.1), pfxB.isPrefixOf k = true ∧ x = k.drop 11) → Q (.ref S) { s with heap := h', drawn := d', toks := tk' }) :
    wpAny (model PG w) A (call (.ref 130) [.ref r, .bytes (List.toArray [114, 101, 102, 115, 47, 104, 101, 97, 100, 115]) tb]) Q E s := by
  refine wpAny_call ?_
  refine' enter_def (binds := [(Str.ofString "self", Value.ref r), (Str.ofString "base", Value.bytes (List.toArray [114, 101, 102, 115, 47, 104, 101, 97, 100, 115]) tb)]) (X.keeps hb) (T.keeps hb) ?k6 ?k7 ?k8 ?k9 ?kB ?_ ?c2 ?c3 ?c4 ?c5
  case k6 => k_is
  case k7 => k_is
  case k8 => omega
  case k9 => exact BindsTo.of_eq rfl
  case kB => exact locs rfl
  case c2 => exact rfl
  case c3 => exact rfl
  case c4 => exact rfl
  case c5 => decide
  intro L' h' hL F'
  obtain ⟨dx, dp, t1, t2, o, F1, N1, X1, T1, hB, lo, n1, n2, n3, e1, e2, e3, hbg, sp⟩ := hR.open F' X T hb
  clear F'
  (try dsimp only)
  (try k_fold)
  k_steps
  have hnil := newSet_B w
  show wpAny _ _ (pyIter _) _ _ _
  refine for_set (s := { s with heap := h9, toks := tk9 }) hhd F9 N9 (.head _) bS (by rw [List.length_map]; omega) (J := JSu w r dg dx S K oS o t1 t2 tb dp) ?_ ?_ ?_ ?_
  · rintro dn m1 n1 ⟨oK, ks, rn, tl, -, rfl, -⟩; exact .head _
  · exact ⟨_, [], none, _, funext (by intro y9; by_cases c0 : y9 = Str.ofString "refname"; (subst c0; with_unfolding_all rfl); by_cases c1 : y9 = Str.ofString "base_len"; (subst c1; with_unfolding_all rfl); by_cases c2 : y9 = Str.ofString "keys"; (subst c2; with_unfolding_all rfl); simp only [if_neg c0, if_neg c1, if_neg c2]), rfl, hnil, .nil, Nat.zero_le _, Nat.zero_le _, by simp⟩
  · rintro Q9 E9 dn k rest t m1 n1 it oi T oT h1 d1 tk1 hperm ⟨oK, ks, rn, tl, rfl, rfl, hSK, hnd, hle, hle2, hmem⟩ F1 N1 hlt hTl hTit hne
    have hkD : k ∈ D.map (·.1) := hperm.mem_iff.mp (by simp)
    have hk64 := hkl k hkD
    have hdl : dn.length + 1 ≤ 100 := by
      have := hperm.length_eq
      simp only [List.length_append, List.length_cons, List.length_map] at this
      omega
    have hks : ks.length ≤ 100 := by omega
    have hK1 : @LT.lt Nat _ K it := hlt (K, _) (.tail _ (.head _))
    have hK2 : @Ne Nat K T := by
      rcases hTl with rfl | q
      · exact neS.1
      · exact Nat.ne_of_lt (q (K, _) (.tail _ (.head _)))
    have hI : @Ne Nat S it ∧ @Ne Nat K it ∧ @Ne Nat dg it ∧ @Ne Nat r it ∧ @Ne Nat dx it := ⟨Nat.ne_of_lt (hlt (S, _) (.head _)), Nat.ne_of_lt hK1, Nat.ne_of_lt (hlt (dg, _) (.tail _ (.tail _ (.head _)))), Nat.ne_of_lt (hlt (r, _) (.tail _ (.tail _ (.tail _ (.head _))))), Nat.ne_of_lt (hlt (dx, _) (.tail _ (.tail _ (.tail _ (.tail _ (.head _))))))⟩
    clear F9 N9 kk9 eS
    refine turnP fun P hP => ?_
    k_steps
    · rename _ = true => hp8
      have e8 : sliceB k (some (((List.length [114, 101, 102, 115, 47, 104, 101, 97, 100, 115] : Nat) : Int) + 1)) none = k.drop 11 := sliceB_from k 11
      refine hP _ ⟨_, _, _, _, rfl, by k_asm, by k_asm, ?_, ⟨_, _, _, _, funext (by intro y9; by_cases c0 : y9 = Str.ofString "refname"; (subst c0; with_unfolding_all rfl); by_cases c1 : y9 = Str.ofString "base_len"; (subst c1; with_unfolding_all rfl); by_cases c2 : y9 = Str.ofString "keys"; (subst c2; with_unfolding_all rfl); simp only [if_neg c0, if_neg c1, if_neg c2]), rfl, by k_asm, nodup_if hnd, len_if hle, by rw [List.length_append]; exact hdl, ?_⟩⟩
      · intro p9 hp9
        (repeat (rcases List.mem_cons.mp hp9 with rfl | hp9; (first | exact hI.1 | exact hI.2.1 | exact hI.2.2.1 | exact hI.2.2.2.1 | exact hI.2.2.2.2)))
        cases hp9
      · rw [e8]; exact sub_step hmem hp8
    · rename _ = false => hp8
      refine hP _ ⟨_, _, _, _, rfl, by k_asm, by k_asm, ?_, ⟨_, _, _, _, funext (by intro y9; by_cases c0 : y9 = Str.ofString "refname"; (subst c0; with_unfolding_all rfl); by_cases c1 : y9 = Str.ofString "base_len"; (subst c1; with_unfolding_all rfl); by_cases c2 : y9 = Str.ofString "keys"; (subst c2; with_unfolding_all rfl); simp only [if_neg c0, if_neg c1, if_neg c2]), rfl, by k_asm, hnd, by rw [List.length_append]; exact Nat.le_succ_of_le hle, by rw [List.length_append]; exact hdl, sub_skip hmem hp8⟩⟩
      · intro p9 hp9
        (repeat (rcases List.mem_cons.mp hp9 with rfl | hp9; (first | exact hI.1 | exact hI.2.1 | exact hI.2.2.1 | exact hI.2.2.2.1 | exact hI.2.2.2.2)))
        cases hp9
  · rintro m' n' h' d' tk' ks' hperm ⟨oK, ks, rn, tl, rfl, rfl, hSK, hnd, hle, hle2, hmem⟩ F1 N1
    clear F9 N9 kk9 eS
    k_steps
    exact h _ _ _ _ _ _ (by ktr_rel) (News.get (by k_asm) (.tail _ (.head _))) (hide3n (News.fresh (by k_asm) (.tail _ (.head _))) (Nat.ne_of_lt lK.1) (Nat.ne_of_lt lK.2.1) (Nat.ne_of_lt lK.2.2)) hSK hnd (fun x => by rw [hmem x]; exact ⟨fun ⟨k, a, b⟩ => ⟨k, hperm.mem_iff.mp a, b⟩, fun ⟨k, a, b⟩ => ⟨k, hperm.mem_iff.mpr a, b⟩⟩)
end
end
example : ∀ w A s Q E, TZ w A s Q E → TZ w A s Q E := by intro w A s Q E h; w_top off; first | (walk1; fail) | exact h
section
def gK8.siteTag : Unit := ()
open gK8
section
variable {p9 : Program} {lo9 : List Str} {w : World} {A : Around} {s : Shared} {base : Heap} {mg mb : Str → Option Value} {mean : ExcName → Option Value} {Q E : Value → Shared → Prop}
example : True := by
  k_with "gK8 call ref" => (k_here; (try dsimp only [List.nil_append, List.cons_append, List.append_nil]); (with_reducible show wpAny _ _ (call (Value.ref 130) _) _ _ _); k_dflt (refine' spec_subkeys ?sX ?sT ?sb ?sr ?su ?sh ?sR ?sV ?sD ?sK ?_; (case sb => exact keep_base (by k_asm) (by k_asm)); (case sX => k_asm); (case sT => k_asm); (case sr => k_room); (case su => k_units); (case sh => k_asm); (case sR => ktr_unf); (case sV => k_asm); (case sD => k_asm); (case sK => k_asm)); (all_goals first | ((with_reducible intro S' oS' h' d' tk' ks' kk' eL' nL' bS' nd' mm'); (k_dflt (have neL := allNe (by k_asm) (by k_asm) nL')); (simp only [AllNe, and_true] at neL); (k_dflt (have N' := news_more (by k_asm) (news_keepAll (by k_asm) kk') eL' nL')); (k_dflt (have F' := fr_keepAll (by k_asm) kk')); (try k_sweep))))
  trivial
set_option maxHeartbeats 4000000 in
theorem spec_keysB {tb : Tok} {fs : List Env} {r dg : Addr} {D : DD} (X : (hd.heap_1 w.params).In base) (T : Top p9 lo9 mean mg mb base) (hb : KeepAll base s.heap) (hroom : A.depth + 12 < recursionLimit) (hun : A.units + 120 < cLine) (hhd : A.handled = none) (hR : RefsAt w base fs s.heap r dg D) (hV : ValsOk D) (hD : D.length ≤ 100) (hkl : ∀ k ∈ D.map (·.1), k.length ≤ 64)
    (h : ∀ S oS h' d' tk' ks, KeepAll s.heap h' → h'.get? S = some oS → s.heap.get? S = none → SetB w oS ks → ks.Nodup → (∀ x, x ∈ ks ↔ ∃ k ∈ D.map (·.1), pfxB.isPrefixOf k = true ∧ x = k.drop 11) → Q (.ref S) { s with heap := h', drawn := d', toks := tk' }) :
    wpAny (model PG w) A (call (.ref 123) [.ref r, .bytes (List.toArray [114, 101, 102, 115, 47, 104, 101, 97, 100, 115]) tb]) Q E s := by
  refine wpAny_call ?_
  refine' enter_def (binds := [(Str.ofString "self", Value.ref r), (Str.ofString "base", Value.bytes (List.toArray [114, 101, 102, 115, 47, 104, 101, 97, 100, 115]) tb)]) (X.keeps hb) (T.keeps hb) ?k6 ?k7 ?k8 ?k9 ?kB ?_ ?c2 ?c3 ?c4 ?c5
  case k6 => k_is
  case k7 => k_is
  case k8 => omega
  case k9 => first | exact binds_K (X.keeps hb) rfl (by k_is) rfl rfl rfl | exact BindsTo.of_eq rfl
  case kB => exact locs rfl
  case c2 => exact rfl
  case c3 => exact rfl
  case c4 => exact rfl
  case c5 => decide
  intro L' h' hL F'
  obtain ⟨dx, dp, t1, t2, o, F1, N1, X1, T1, hB, lo, n1, n2, n3, e1, e2, e3, hbg, sp⟩ := hR.open F' X T hb
  clear F'
  (try dsimp only)
  (try k_fold)
  k_steps
  rename _ ∧ _ => ne9
  exact h _ _ _ _ _ _ (by ktr_rel) (News.get (by k_asm) (by k_mem)) (hide3n (News.fresh (by k_asm) (by k_mem)) ne9.1 ne9.2.1 ne9.2.2) (by k_asm) (by k_asm) (by k_asm)
end
end
example : ∀ w A s Q E, TZ w A s Q E → TZ w A s Q E := by intro w A s Q E h; w_top off; first | (walk1; fail) | exact h
section
def gTH.siteTag : Unit := ()
open gTH
open LG
example : True := by
  k_with "gTH call ref" => (k_here; (try dsimp only [List.nil_append, List.cons_append, List.append_nil]); (with_reducible show wpAny _ _ (call (Value.ref 297) _) _ _ _); k_dflt (refine' spec_values ?sX ?sT ?sb ?sr ?su ?sh ?_; (case sb => exact keep_base (by k_asm) (by k_asm)); (case sX => k_asm); (case sT => k_asm); (case sr => k_room); (case su => k_units); (case sh => k_asm)); (all_goals first | ((with_reducible intro l' vs' c' h' tk' hb' kk' eL' nL'); (k_dflt (have N' := news_more (by k_asm) (news_keepAll (by k_asm) kk') eL' nL')); (k_dflt (have F' := fr_keepAll (by k_asm) kk')); clear nL' eL' kk'; (try k_sweep))))
  k_with "gTH call ref" => (k_here; (try dsimp only [List.nil_append, List.cons_append, List.append_nil]); (with_reducible show wpAny _ _ (call (Value.ref 290) _) _ _ _); k_dflt (refine' spec_names ?sX ?sT ?sb ?sr ?su ?sh ?_; (case sb => exact keep_base (by k_asm) (by k_asm)); (case sX => k_asm); (case sT => k_asm); (case sr => k_room); (case su => k_units); (case sh => k_asm)); (all_goals first | ((with_reducible intro l' vs' c' h' tk' hb' kk' eL' nL'); (k_dflt (have N' := news_more (by k_asm) (news_keepAll (by k_asm) kk') eL' nL')); (k_dflt (have F' := fr_keepAll (by k_asm) kk')); clear nL' eL' kk'; (try k_sweep))))
  k_with "gTH compareOp NotEq ref ref" => (refine iter_stopF ?_)
  k_with "gTH call builtin:sorted" => (refine iter_stopF ?_)
  k_with "gTH call builtin:dict.keys" => (k_here; k_dflt (refine' bkeys ?bF ?bN ?bp ?bB ?lo ?_; (case bF => k_asm); (case bN => k_asm); (case bp => k_mem); (case bB => k_asm); (case lo => k_asm); k_whole); intro h' v' F' N' l1; (try k_lt l1); (try k_sweep))
  trivial
theorem good_keys {D : DD} (h : Good D) {k : Bts} (hk : k ∈ D.map (·.1)) : k ∈ names6 := by
  obtain ⟨p, hp, rfl⟩ := List.mem_map.mp hk
  exact (h.1 p hp).1
theorem below_len {D : DD} {ks : List Bts} (gD : Good D) (hn : ks.Nodup) (hm : ∀ x, x ∈ ks ↔ ∃ k ∈ D.map (·.1), pfxB.isPrefixOf k = true ∧ x = k.drop 11) : ks.length ≤ 6 := by
  have h1 : ks.length ≤ ((D.map (·.1)).map fun k => k.drop 11).length := nodup_len hn fun x hx => by
    obtain ⟨k, hk, -, rfl⟩ := (hm x).mp hx
    exact List.mem_map.mpr ⟨k, hk, rfl⟩
  rw [List.length_map, List.length_map] at h1
  exact Nat.le_trans h1 gD.len
theorem below_perm {D : DD} {ks kk : List Bts} (gD : Good D) (hn : ks.Nodup) (hm : ∀ x, x ∈ ks ↔ ∃ k ∈ D.map (·.1), pfxB.isPrefixOf k = true ∧ x = k.drop 11) (hkk : kk = D.map (·.1)) :
    ks.Perm ((kk.filter fun k => sliceB k none (some 11) == [114, 101, 102, 115, 47, 104, 101, 97, 100, 115, 47]).map fun k => sliceB k (some 11) none) := by
  subst hkk
  have e11 : ∀ k : Bts, sliceB k (some 11) none = k.drop 11 := fun k => sliceB_from k 11
  have et : ∀ k : Bts, sliceB k none (some 11) = k.take 11 := fun k => sliceB_to k 11
  have same : ∀ k ∈ names6, pfxB.isPrefixOf k = (k.take 11 == [114, 101, 102, 115, 47, 104, 101, 97, 100, 115, 47]) := by decide +kernel
  simp only [e11, et]
  refine (List.perm_ext_iff_of_nodup hn ?_).mpr fun x => ?_
  · refine List.pairwise_map.mpr (List.Pairwise.imp_of_mem ?_ (gD.2.filter _))
    intro a b ha hb hne e
    refine hne ?_
    have ha2 := (List.mem_filter.mp ha).2
    have hb2 := (List.mem_filter.mp hb).2
    rw [beq_iff_eq] at ha2 hb2
    rw [← List.take_append_drop 11 a, ← List.take_append_drop 11 b, ha2, hb2, e]
  · rw [hm x]
    constructor
    · rintro ⟨k, hk, hp, rfl⟩
      exact List.mem_map.mpr ⟨k, List.mem_filter.mpr ⟨hk, by rw [← same k (good_keys gD hk)]; exact hp⟩, rfl⟩
    · intro h
      obtain ⟨k, hk, rfl⟩ := List.mem_map.mp h
      obtain ⟨hk1, hk2⟩ := List.mem_filter.mp hk
      exact ⟨k, hk1, by rw [same k (good_keys gD hk1)]; exact hk2, rfl⟩
example : True := by
  k_with "gTH exec Assign cons ListComp" => (refine iter_stopF ?_)
  k_with "gTH exec Assign" => ((with_reducible show wpAny _ _ (exec (Stmt.Assign _ (Expr.ListComp _ _ _ _) _) _) _ _ _); refine iter_stopF ?_)
  trivial
section
set_option maxHeartbeats 2000000 in
theorem tail_56 : ∃ body scope st st2, lawOf PySem.Challenge.pw_iy0008_01.main.body = some (body, scope) ∧ subS body 5 = some st ∧ subS body 6 = some st2 ∧ ∀ {p9 : Program} {lo9 : List Str} {w : World} {A : Around} {g h : Heap} {L fa lS lD dp rr dx dh dg : Addr} {ol op : Obj} {t1 t2 : Tok} {D : DD} {mg mb : Str → Option Value} {mean : ExcName → Option Value} {Q : Flow → Shared → Prop} {E : Value → Shared → Prop} {gs : Array GenState} {dr : Drawn} {tk : Nat} {os : OsState} {rest : List Stmt}, (hd.heap_1 w.params).In g → Top p9 lo9 mean mg mb g → CodeHd g 350 348 → CodeHd g 107 103 → A.frames = some [envOfC (Str.ofString "law") scope L fa (.ref 350)] → A.depth + 60 < recursionLimit → A.units + 600 < cLine → A.handled = none → PassesOwn (model PG w) A (envOfC (Str.ofString "law") scope L fa (.ref 350)) E → Good D → LawJ w g lD lS lD dp rr dx dh dg L ol ol op t1 t2 D h gs →
    (∀ h' dr' tk', LawJ w g lD lS lD dp rr dx dh dg L ol ol op t1 t2 D h' gs → wpAny (model PG w) A (execs rest (envOfC (Str.ofString "law") scope L fa (.ref 350))) Q E ⟨h', gs, dr', tk', os⟩) →
    wpAny (model PG w) A (execs (st :: st2 :: rest) (envOfC (Str.ofString "law") scope L fa (.ref 350))) Q E ⟨h, gs, dr, tk, os⟩ := by
  refine ⟨_, _, _, _, by rfl, by rfl, by rfl, ?_⟩
  intro p9 lo9 w A g h L fa lS lD dp rr dx dh dg ol op t1 t2 D mg mb mean Q E gs dr tk os rest X T hc1 hc2 hA hroom hun hhd hPO gD hJ hQ
  obtain ⟨oh, og, oR, oO, oG, oF, oS, ps, ps3, codes, m, vS, vF, vG, vO, F, N, ap, ag, dS, dF, dG, dO, dR, hB, hBh, hco, ht3⟩ := hJ
  obtain ⟨env9, he9, hk9, hf9⟩ : ∃ env9, A.frames = some [env9] ∧ env9.scope.kind = .function ∧ env9.frame = some L := ⟨_, hA, rfl, rfl⟩
  have loH := lo_dh ap
  have loG := lo_dg ap
  have gL6 := gD.len
  have gL100 : D.length ≤ 16777216 := Nat.le_trans gD.len100 (by decide)
  have hcc := And.intro hc1 hc2
  clear hc1 hc2
  have hrefl : KeepAll g g := fun _ _ e => e
  show wpAny _ _ (execs (_ :: _) _) _ _ _
  k_steps
  show wpAny _ _ (exec _ _) _ _ _
  rename Fr _ _ _ _ => F7
  rename News _ _ _ _ => N7
  refine assign_comp_view F7 rfl (by with_unfolding_all rfl) (by with_unfolding_all rfl) (by decide) rfl (by decide) rfl rfl rfl ?_
  k_steps
  rename Fr _ _ _ _ => F8
  rename News _ _ _ _ => N8
  refine ⟨_, dh, oh, _, D, rfl, by k_asm, F8, N8, .head _, by k_mem, hBh, by omega, fun kvs hk hp => ?_⟩
  have hkl : ∀ k ∈ kvs.map (·.1), k.length ≤ 64 := fun k hm => names6_len k (good_keys gD (by rw [← hk.keys]; exact hm))
  refine view_rest (fun k => sliceB k none (some 11) == [114, 101, 102, 115, 47, 104, 101, 97, 100, 115, 47]) (fun k => sliceB k (some 11) none) (by k_mem) ?_ ?_
  · rintro k t I oI C oC D9 m2 ys h2 tk2 E2 R1 R2 hkm hC hx2 F2 N2 off ne hr1 hr2
    have hk64 := hkl k hkm
    clear F8 N8 hkl
    k_steps
    · exact LCg.CompEnd.intro (by k_asm) (by k_asm) _ (fun p hp => hp) off (by k_mem) (hr1 (by k_asm) _)
    · exact LCg.CompEnd.intro (by k_asm) (by k_asm) _ (fun p hp => hp) off (by k_mem) (hr2 (by k_asm))
  · intro ys hys
    unfold LCg.FinA
    intro D3 h3 tk3 F3 N3 o3
    k_steps
    show wpAny _ _ (call (Value.ref 123) _) _ _ _
    rename Fr _ _ _ _ => F7
    rename News _ _ _ _ => N7
    refine spec_keysB X T (keep_base F7 base_self) (by omega) (by omega) hhd (refs_at3 no_frs F7 N7 hf9 base_self (by k_mem) (by k_mem) (by k_mem) hB loG) gD.vals gD.len100 (fun k hm => names6_len k (good_keys gD hm)) (fun S oSS h1 d1 tk1 sk kk eS nS bS nd1 hm1 => ?_)
    have hsl := below_len gD nd1 hm1
    have F1 := fr_keepAll F7 kk
    have N1 := news_more F7 (news_keepAll N7 kk) eS nS
    clear F7 N7 kk eS nS
    k_steps
    show wpAny _ _ (call (Value.builtin "sorted") _) _ _ _
    rename Fr _ _ _ _ => F7
    rename News _ _ _ _ => N7
    refine sorted_set (by k_asm) F7 N7 (.head _) bS (by omega) fun h2 d2 tk2 D1 vs1 ks1 e1 F2 N2 l2 b1 p1 s1 => ?_
    clear F7 N7 l2
    k_steps
    show wpAny _ _ (call (Value.builtin "sorted") _) _ _ _
    rename Fr _ _ _ _ => F7
    rename News _ _ _ _ => N7
    have hyl : ys.length < 64 := by
      rw [hys.length, List.length_map]
      have := List.length_filter_le (fun k => sliceB k none (some 11) == [114, 101, 102, 115, 47, 104, 101, 97, 100, 115, 47]) (kvs.map (·.1))
      rw [hk.keys, List.length_map] at this
      rw [hk.keys]; omega
    refine sorted_list F7 N7 ⟨_, (N7 (D3, _) (by k_mem)).1, rfl, _, rfl⟩ hys hyl fun h4 d4 tk4 D2 vs2 ks2 e2 F4 N4 l4 b2 p2 s2 => ?_
    clear F7 N7 l4
    k_steps
    show wpAny _ _ (compareOp _ _ _) _ _ _
    rename Fr _ _ _ _ => F7
    rename News _ _ _ _ => N7
    have ek := sortedB_unique (p1.trans ((below_perm gD nd1 hm1 hk.keys).trans p2.symm)) s1 s2
    subst ek
    refine ne_lists (ks := ks1) ⟨_, (N7 (D1, _) (by k_mem)).1, rfl, _, rfl⟩ ⟨_, (N7 (D2, _) (by k_mem)).1, rfl, _, rfl⟩ b1 b2 (by omega) ?_
    k_steps
    rename Fr _ _ _ _ => F7
    rename News _ _ _ _ => N7
    obtain ⟨m9, F10⟩ := fr_names (a := .ref lS) (b := .ref dh) (c := .ref dg) F7 (by with_unfolding_all rfl) (by with_unfolding_all rfl) (by with_unfolding_all rfl)
    exact hQ _ _ _ ⟨oh, og, oR, oO, oG, oF, oS, ps, ps3, codes, m9, _, _, _, _, F10, fun p hp => N7 p (List.mem_append_right [_, _, _, _, _] hp), ap, ag, dS, dF, dG, dO, dR, hB, hBh, hco, ht3⟩
end
end
example : ∀ w A s Q E, TZ w A s Q E → TZ w A s Q E := by intro w A s Q E h; w_top off; first | (walk1; fail) | exact h
section
theorem frames_trunc {h : Heap} {L : Addr} {H : List Addr} : ∀ {l : List Env}, FramesOk h l → (∀ b ∈ frs l, @LT.lt Nat _ b L) → (∀ b ∈ frs l, b ∉ H) → FramesOk (hideAll (trunc h L) H) l
  | [], _, _, _ => trivial
  | env :: r, ⟨hk, ⟨L1, o, hf, ho, hd⟩, hr⟩, hl, hn =>
    have hm : L1 ∈ frs (env :: r) := List.mem_filterMap.mpr ⟨env, .head _, hf⟩
    have sub : ∀ b ∈ frs r, b ∈ frs (env :: r) := fun b hb => by
      obtain ⟨e, he, h2⟩ := List.mem_filterMap.mp hb
      exact List.mem_filterMap.mpr ⟨e, .tail _ he, h2⟩
    ⟨hk, ⟨L1, o, hf, hideAll_get _ (by rw [trunc_lt (hl L1 hm)]; exact ho) (hn L1 hm), hd⟩, frames_trunc hr (fun b hb => hl b (sub b hb)) fun b hb => hn b (sub b hb)⟩
inductive Caught (h0 h' base : Heap) (fs : List Env) (L : Addr) (H : List Addr) (m : Str → Option Value) (news : List (Addr × Obj)) : Prop
  | mk (g' : Heap) (F : Fr g' L h' m) (N : News g' L h' news) (hb : KeepAll base g') (hf : FramesOk g' fs) (hc : ∀ h3 m3, Fr g' L h3 m3 → (∀ b ∈ H, ∀ o, h0.get? b = some o → h3.get? b = some o) → KeepF fs h0 h3)
theorem caught2 {h0 h₁ h' base g : Heap} {fs : List Env} {env : Env} {L e : Addr} {cls : Value} {H : List Addr} {m : Str → Option Value} {news : List (Addr × Obj)}
    (R : RaisedH h₁ (env :: fs) e cls h') (hf : env.frame = some L) (hL : L = h0.objs.size) (F : Fr g L h₁ m) (N : News g L h₁ news) (k1 : KeepF fs h0 h₁) (hfs : FramesOk h0 fs)
    (hb : KeepAll base h0) (hbf : ∀ b ∈ frs fs, base.get? b = none) (hbH : ∀ b ∈ H, base.get? b = none) (hHf : ∀ b ∈ frs fs, b ∉ H) (hnH : ∀ p ∈ news, p.1 ∈ H ∨ h0.get? p.1 = none) :
    Caught h0 h' base fs L H m news := by
  have hK := R.keepF
  have nL : ∀ b ∈ frs (env :: fs), b ∉ frs fs → b = L := fun b hb hn => by
    obtain ⟨e', he', h2⟩ := List.mem_filterMap.mp hb
    rcases List.mem_cons.mp he' with rfl | he'
    · rw [hf] at h2; cases h2; rfl
    · exact absurd (List.mem_filterMap.mpr ⟨e', he', h2⟩) hn
  have ltL : ∀ b o, h0.get? b = some o → @LT.lt Nat _ b L := fun b o q => by rw [hL]; exact Heap.lt_size q
  have keep0 : ∀ b o, b ∉ frs fs → h0.get? b = some o → h'.get? b = some o := fun b o n2 q => hK.1 b o (fun hm => Nat.ne_of_lt (ltL b o q) (nL b hm n2)) (k1.1 b o n2 q)
  have nf : ∀ p ∈ news, p.1 ∉ frs fs := fun p hp hm => by
    rcases hnH p hp with x | x
    · exact hHf _ hm x
    · obtain ⟨o, q, _⟩ := hfs.mem hm; rw [x] at q; cases q
  have off : ∀ b o, b ∉ H → h0.get? b = some o → b ∉ H ++ news.map (·.1) := fun b o n q hm => by
    rcases List.mem_append.mp hm with hm | hm
    · exact n hm
    · obtain ⟨p, hp, rfl⟩ := List.mem_map.mp hm
      rcases hnH p hp with x | x
      · exact n x
      · rw [q] at x; cases x
  refine ⟨hideAll (trunc h' L) (H ++ news.map (·.1)), ⟨hK.2.ns F.ns, fun b o q => (trunc_sub (of_hideAll _ q)).1, by rw [hideAll_size]; exact trunc_size _ _⟩, fun p hp => ?_, fun b o q => ?_, ?_, fun h3 m3 F3 hH3 => ⟨fun b o n q => ?_, fun b o q hd => ?_⟩⟩
  · obtain ⟨n1, n2, n3⟩ := N p hp
    exact ⟨hK.1 _ _ (fun hm => n2 (nL _ hm (nf p hp))) n1, n2, hideAll_none _ (List.mem_append_right _ (List.mem_map_of_mem hp))⟩
  · have hbn : b ∉ H := fun hm => by rw [hbH b hm] at q; cases q
    refine hideAll_get _ ?_ (off b o hbn (hb _ _ q))
    rw [trunc_lt (ltL _ _ (hb _ _ q))]
    exact keep0 b o (fun hm => by rw [hbf b hm] at q; cases q) (hb _ _ q)
  · refine frames_trunc (FramesOk.up (k1.2.trans hK.2) hfs) (fun b hm => ?_) fun b hm hm2 => ?_
    · obtain ⟨o, q, _⟩ := hfs.mem hm; exact ltL b o q
    · obtain ⟨o, q, _⟩ := hfs.mem hm; exact off b o (hHf b hm) q hm2
  · by_cases hbn : b ∈ H
    · exact hH3 b hbn o q
    · refine F3.keep _ _ (hideAll_get _ ?_ (off b o hbn q))
      rw [trunc_lt (ltL _ _ q)]
      exact keep0 b o n q
  · by_cases hbn : b ∈ H
    · exact ⟨o.slots, hH3 b hbn o q⟩
    · obtain ⟨sl, z⟩ := k1.2 b o q hd
      obtain ⟨sl2, z2⟩ := hK.2 b _ z hd
      exact ⟨sl2, F3.keep _ _ (hideAll_get _ (by rw [trunc_lt (ltL _ _ q)]; exact z2) (off b o hbn q))⟩
end
example : ∀ w A s Q E, TZ w A s Q E → TZ w A s Q E := by intro w A s Q E h; w_top off; first | (walk1; fail) | exact h
section
theorem vals_small {D : DD} {k v : Bts} (h : ValsOk D) (e : getB D k = some v) : v.length ≤ 1048576 := Nat.le_trans (h k v e).2 (by decide)
noncomputable def symOf (D : DD) (k : Bts) : Option Bts := match getB D k with
  | some v => if isRef v then some (rstripB (v.drop 5) [13, 10]) else none
  | none => none
noncomputable def symD (D : DD) (ks : List Bts) : DD := ks.filterMap fun k => (symOf D k).map fun v => (k, v)
theorem symD_len (D : DD) (ks : List Bts) : (symD D ks).length ≤ ks.length := List.length_filterMap_le _ _
theorem symD_yes {D : DD} {ks : List Bts} {k v : Bts} (h : getB D k = some v) (hr : rp.isPrefixOf v = true) (hk : k ∉ ks) : putB (symD D ks) k (rstripB (v.drop 5) [13, 10]) = symD D (ks ++ [k]) := by
  have e1 : symD D (ks ++ [k]) = symD D ks ++ [(k, rstripB (v.drop 5) [13, 10])] := by
    have hr' : isRef v = true := hr
    simp [symD, List.filterMap_append, symOf, h, hr']
  rw [e1]
  unfold putB
  rw [if_neg]
  intro hc
  obtain ⟨p, hp, e⟩ := List.any_eq_true.mp hc
  obtain ⟨k', hk', e'⟩ := List.mem_filterMap.mp hp
  obtain ⟨v', -, rfl⟩ := Option.map_eq_some_iff.mp e'
  simp only [decide_eq_true_eq] at e
  exact hk (e ▸ hk')
theorem symD_no {D : DD} {ks : List Bts} {k v : Bts} (h : getB D k = some v) (hr : rp.isPrefixOf v = false) : symD D ks = symD D (ks ++ [k]) := by
  have hr' : isRef v = false := hr
  simp [symD, List.filterMap_append, symOf, h, hr']
theorem perm_new {dn rest : List Bts} {k : Bts} {D : DD} (h : (dn ++ k :: rest).Perm (D.map (·.1))) (hn : (D.map (·.1)).Nodup) : k ∉ dn := fun hm => by
  have := List.nodup_append.mp (h.nodup_iff.mpr hn)
  exact this.2.2 k hm k (.head _) rfl
theorem perm_some {dn rest : List Bts} {k : Bts} {D : DD} (h : (dn ++ k :: rest).Perm (D.map (·.1))) : getB D k ≠ none := fun e => by
  have hm : k ∈ D.map (·.1) := h.mem_iff.mp (by simp)
  obtain ⟨p, hp, rfl⟩ := List.mem_map.mp hm
  unfold getB at e
  rw [Option.map_eq_none_iff, List.find?_eq_none] at e
  exact e p hp (by simp)
theorem frs_lt {h : Heap} {l : List Env} (x : FramesOk h l) : ∀ b ∈ frs l, @LT.lt Nat _ b h.objs.size := fun b hb => by
  obtain ⟨o, e, _⟩ := x.mem hb
  exact Heap.lt_size e
section
variable {w : World} {A : Around} {E : Value → Shared → Prop} {s : Shared} {env : Env} {h₁ : Heap} {fs : List Env} {e : Addr} {cls : Value}
theorem clauseF {c : Value} {b : Bool} {t : PySem.Expr} {b₀ : Stmt} {suite : List Stmt} {pos : Pos} {rest : List ExceptHandler} {Q : Flow → Shared → Prop} (R : RaisedH h₁ fs e cls s.heap)
    (hname : ∀ (A' : Around) (E' : Value → Shared → Prop) (Q' : Value → Shared → Prop), Q' c s → wpAny (model PG w) A' (eval t env) Q' E' s)
    (hm : ∀ (A' : Around) (E' : Value → Shared → Prop) (Q' : Bool → Shared → Prop), Q' b s → wpAny (model PG w) A' (excMatches (.ref e) c) Q' E' s)
    (hit : b = true → ∀ h', RaisedH h₁ fs e cls h' → wpAny (model PG w) (A.mark (some (.ref e))) (execs (b₀ :: suite) env) Q (fun _ _ => False) { s with heap := h' })
    (miss : b = false → wpAny (model PG w) A (handleBy (.ref e) env rest) Q E s) :
    wpAny (model PG w) A (handleBy (.ref e) env (.ExceptHandler (some t) none (b₀ :: suite) pos :: rest)) Q E s := by
  refine wpAny_handleBy_cons (codeAny_handlers_test (hname _ _ _ (hm _ _ _ ?_))) (by intro q; cases q)
  cases b with
  | false => exact miss rfl
  | true =>
    obtain ⟨a0, hfl, hup⟩ := R
    exact codeAny_handlers_suite (lands_againW hfl fun h₆ hfl₆ u₆ => wpAny_mono (hit rfl h₆ ⟨a0, hfl₆, hup.trans u₆⟩) (fun _ _ x => x) fun _ _ h => h.elim)
end
def gK5.siteTag : Unit := ()
open gK5
section
variable {p9 : Program} {lo9 : List Str} {w : World} {A : Around} {s : Shared} {base : Heap} {mg mb : Str → Option Value} {mean : ExcName → Option Value} {Q E : Value → Shared → Prop}
example : True := by
  k_with "gK5 call builtin:dict.keys" => (k_here; k_dflt (refine' bkeys ?bF ?bN ?bp ?bB ?lo ?_; (case bF => k_asm); (case bN => k_asm); (case bp => k_mem); (case bB => k_asm); (case lo => k_asm); k_whole); intro h' v' F' N' l1; (try k_lt l1); (try k_sweep))
  k_with "gK5 call type:set" => (k_here; (with_reducible show wpAny _ _ (call (Value.type _) [Value.ref _]) _ _ _); k_dflt (refine' bset_view ?bh ?bF ?bN ?bv ?bp ?bB ?bz ?_; (case bh => k_asm); (case bF => k_asm); (case bN => k_asm); (case bv => k_mem); (case bp => k_mem); (case bB => k_asm); (case bz => k_asm); k_whole); intro h' S' oS' tk' F' N' l1 hS'; (try k_lt l1); (try k_sweep))
  k_with "gK5 call type:set" => (k_here; (with_reducible show wpAny _ _ (call (Value.type _) []) _ _ _); k_dflt (refine' set_nilN ?bF ?bN ?_; (case bF => k_asm); (case bN => k_asm); k_whole); intro h' S' F' N' l1; (try k_lt l1); (try k_sweep))
  k_with "gK5 call type:set nil nil" => (k_here; k_dflt (refine' set_nilN ?bF ?bN ?_; (case bF => k_asm); (case bN => k_asm); k_whole); intro h' S' F' N' l1; (try k_lt l1); (try k_sweep))
  k_with "gK5 getMethod ref" => (k_here; (with_reducible show wpAny _ _ (getMethod (Value.ref _) (PySem.Str.ofString "add") _) _ _ _); k_dflt (refine' addM ?bN ?bp ?bS ?_; (case bN => k_asm); (case bp => k_mem); (case bS => k_asm); k_whole))
  k_with "gK5 call builtin:set.add" => (k_here; k_dflt (refine' addN ?bF ?bN ?bU ?bS ?bz ?_; (case bF => k_asm); (case bN => k_asm); (case bU => k_updF); (case bS => k_asm); (case bz => k_asm); k_whole); intro h' o' F' N' hS'; (try dsimp only at N'); (try k_sweep))
  k_with "gK5 call ref" => (k_here; (try dsimp only [List.nil_append, List.cons_append, List.append_nil]); (with_reducible show wpAny _ _ (call (Value.ref 229) _) _ _ _); k_dflt (refine' spec_allkeys ?sX ?sT ?sb ?sr ?su ?sh ?sR ?sV ?sD ?_; (case sb => exact keep_base (by k_asm) (by k_asm)); (case sX => k_asm); (case sT => k_asm); (case sr => k_room); (case su => k_units); (case sh => k_asm); (case sR => ktr_unf); (case sV => k_asm); (case sD => k_asm)); (all_goals first | ((with_reducible intro S oS h9 tk9 kk9 eS nS bS); (k_dflt (have neS := allNe (by k_asm) (by k_asm) nS)); (simp only [AllNe, and_true] at neS); (k_dflt (have N9 := news_more (by k_asm) (news_keepAll (by k_asm) kk9) eS nS)); (k_dflt (have F9 := fr_keepAll (by k_asm) kk9)); (try k_sweep))))
  k_with "gK5 call ref" => (k_here; (try dsimp only [List.nil_append, List.cons_append, List.append_nil]); (with_reducible show wpAny _ _ (call (Value.ref 159) _) _ _ _); k_dflt (refine' spec_read ?sX ?sT ?sb ?sr ?su ?sh ?sR ?sV ?_ ?_; (case sb => exact keep_base (by k_asm) (by k_asm)); (case sX => k_asm); (case sT => k_asm); (case sr => k_room); (case su => k_units); (case sh => k_asm); (case sR => ktr_unf); (case sV => k_asm)); (all_goals first | ((with_reducible intro v' t' h' tk' hgv' kk'); (have F' := fr_keepAll (by k_asm) kk'); (have N' := news_keepAll (by k_asm) kk'); (try k_sweep)) | ((with_reducible intro h' tk' hgn' kk'); (have F' := fr_keepAll (by k_asm) kk'); (have N' := news_keepAll (by k_asm) kk'); (try k_sweep))))
  k_with "gK5 call ref" => (k_here; (try dsimp only [List.nil_append, List.cons_append, List.append_nil]); (with_reducible show wpAny _ _ (call (Value.ref 94) _) _ _ _); k_dflt (refine' spec_parse (vals_small (by k_asm) (by k_asm)) ?sX ?sT ?sb ?sr ?su ?sh ?sA ?sF ?_ ?_; (case sb => exact keep_base (by k_asm) (by k_asm)); (case sX => k_asm); (case sT => k_asm); (case sr => k_room); (case su => k_units); (case sh => k_asm); (case sA => exact Around.frames_deeper (by k_asm)); (case sF => exact frames_push (by k_asm) (FramesOk.keep (by k_asm) (by ktr_rel)) (by first | exact rfl | k_asm) rfl)); (all_goals first | ((with_reducible intro hv' h' tk' t' kk'); (have F' := fr_keepAll (by k_asm) kk'); (have N' := news_keepAll (by k_asm) kk'); (try k_sweep)) | ((with_reducible intro hv' h' tk' e' R'); (with_reducible replace R' : RaisedH _ _ _ _ _ := R'))))
  k_with "gK5 call ref" => (k_here; (try dsimp only [List.nil_append, List.cons_append, List.append_nil]); (with_reducible show wpAny _ _ (call (Value.ref 67) _) _ _ _); k_dflt (refine' spec_Ref ?sX ?sT ?sb ?sr ?su ?sh ?_; (case sb => exact keep_base (by k_asm) (by k_asm)); (case sX => k_asm); (case sT => k_asm); (case sr => k_room); (case su => k_units); (case sh => k_asm)); (all_goals first | ((with_reducible intro h' tk' kk'); (have F' := fr_keepAll (by k_asm) kk'); (have N' := news_keepAll (by k_asm) kk'); (try k_sweep))))
  k_with "gK5 exec For Name Call cons nil" => (with_unfolding_all refine for_free ?_)
  k_with "gK5 exec For Name Name cons nil" => (with_unfolding_all refine for_free ?_)
  k_with "gK5 pyIter ref" => (refine iter_stopK ?_)
  k_with "gK5 ktr_rel" => (exact Fr.keep (by k_asm))
  trivial
inductive JSy (w : World) (h0 base : Heap) (fs : List Env) (L' r dg dx S K : Addr) (oS o : Obj) (t1 t2 : Tok) (dp : Addr) (D : DD) (dn : List Bts) (g1 : Heap) (m1 : Str → Option Value) (n1 : List (Addr × Obj)) : Prop
  | mk (oK : Obj) (r1 r2 r3 : Option Value) (em : m1 = (fun y => if y = Str.ofString "src" then r1 else if y = Str.ofString "ref_value" then r2 else if y = Str.ofString "dst" then r3 else if y = Str.ofString "ret" then some (Value.ref K) else List.lookup y [(Str.ofString "self", Value.ref r)].reverse)) (en : n1 = [(S, oS), (K, oK), (dg, o), (r, instObj 281 dx), (dx, refsDict w t1 t2 dg dp)]) (hB : BObj w oK (symD D dn)) (hl : dn.length ≤ 100) (hb : KeepAll base g1) (hf : FramesOk g1 fs) (hc : ∀ h3 m3, Fr g1 L' h3 m3 → (∀ b ∈ [dg, r, dx], ∀ o', h0.get? b = some o' → h3.get? b = some o') → KeepF fs h0 h3)
set_option maxHeartbeats 4000000 in
theorem spec_symrefs {fs : List Env} {r dg : Addr} {D : DD} (X : (hd.heap_1 w.params).In base) (T : Top p9 lo9 mean mg mb base) (hb : KeepAll base s.heap) (hroom : A.depth + 12 < recursionLimit) (hun : A.units + 120 < cLine) (hhd : A.handled = none) (hR : RefsAt w base fs s.heap r dg D) (hV : ValsOk D) (hD : D.length ≤ 100) (hA : A.frames = some fs) (hfs : FramesOk s.heap fs) (hbf : ∀ b ∈ frs fs, base.get? b = none) (hnd : (D.map (·.1)).Nodup)
    (h : ∀ d o h' d' tk' ks, KeepF fs s.heap h' → h'.get? d = some o → s.heap.get? d = none → BObj w o (symD D ks) → (d == sysModules) = false → ks.Perm (D.map (·.1)) → Q (.ref d) { s with heap := h', drawn := d', toks := tk' }) :
    wpAny (model PG w) A (call (.ref 201) [.ref r]) Q E s := by
  refine wpAny_call ?_
  refine' enter_def (binds := [(Str.ofString "self", Value.ref r)]) (X.keeps hb) (T.keeps hb) ?k6 ?k7 ?k8 ?k9 ?kB ?_ ?c2 ?c3 ?c4 ?c5
  case k6 => k_is
  case k7 => k_is
  case k8 => omega
  case k9 => exact BindsTo.of_eq rfl
  case kB => exact locs rfl
  case c2 => exact rfl
  case c3 => exact rfl
  case c4 => exact rfl
  case c5 => decide
  intro L' h' hL F'
  obtain ⟨dx, dp, t1, t2, o, F1, N1, X1, T1, hB, lo, n1, n2, n3, e1, e2, e3, hbg, sp⟩ := hR.open F' X T hb
  clear F'
  (try dsimp only)
  (try k_fold)
  k_steps
  rename_i K _ oK0 loK hsK _ _ _ lK _
  have hnil : BObj w oK0 (symD D []) := BObj.new hsK
  have hfl := frs_lt hfs
  rw [← hL] at hfl
  show wpAny _ _ (pyIter _) _ _ _
  refine for_setG (s := { s with heap := h9, toks := tk9 }) hhd F9 N9 (.head _) bS (by rw [List.length_map]; omega) (J := JSy w s.heap base fs L' r dg dx S K oS o t1 t2 dp D) ?_ ?_ ?_ ?_
  · rintro dn g1 m1 n1 ⟨oK, r1, r2, r3, -, rfl, -⟩; exact .head _
  · refine ⟨_, none, none, none, funext (by intro y9; by_cases c0 : y9 = Str.ofString "src"; (subst c0; with_unfolding_all rfl); by_cases c1 : y9 = Str.ofString "ref_value"; (subst c1; with_unfolding_all rfl); by_cases c2 : y9 = Str.ofString "dst"; (subst c2; with_unfolding_all rfl); by_cases c3 : y9 = Str.ofString "ret"; (subst c3; with_unfolding_all rfl); simp only [if_neg c0, if_neg c1, if_neg c2, if_neg c3]), rfl, hnil, Nat.zero_le _, hbg, FramesOk.hide hfs sp, fun h3 m3 F3 hH => KeepF.of fun b ob q => ?_⟩
    by_cases hbn : b ∈ [dg, r, dx]
    · exact hH b hbn ob q
    · exact F3.keep _ _ (hideAll_get _ q hbn)
  · rintro Q9 E9 dn k rest t g1 m1 n1 it oi TT oT h1 d1 tk1 hperm ⟨oK, r1, r2, r3, rfl, rfl, hSK, hle2, hbg1, hfs1, hcl⟩ F2 N2 hlt hTl hTit hne hle9 hTT9
    have hkn := perm_new hperm hnd
    have hks := perm_some hperm
    have hdl : dn.length + 1 ≤ 100 := by
      have := hperm.length_eq
      simp only [List.length_append, List.length_cons, List.length_map] at this
      omega
    have hzz : (symD D dn).length ≤ 16777216 := Nat.le_trans (symD_len D dn) (by omega)
    have hK2 : @Ne Nat K TT := by
      rcases hTl with rfl | q
      · exact neS.1
      · exact Nat.ne_of_lt (q (K, _) (.tail _ (.head _)))
    have hI : @Ne Nat S it ∧ @Ne Nat K it ∧ @Ne Nat dg it ∧ @Ne Nat r it ∧ @Ne Nat dx it := ⟨Nat.ne_of_lt (hlt (S, _) (.head _)), Nat.ne_of_lt (hlt (K, _) (.tail _ (.head _))), Nat.ne_of_lt (hlt (dg, _) (.tail _ (.tail _ (.head _)))), Nat.ne_of_lt (hlt (r, _) (.tail _ (.tail _ (.tail _ (.head _))))), Nat.ne_of_lt (hlt (dx, _) (.tail _ (.tail _ (.tail _ (.tail _ (.head _))))))⟩
    have X2 := X.keeps hbg1
    have T2 := T.keeps hbg1
    clear kk9 eS X1 T1
    have nK : s.heap.get? K = none := hide3n (News.fresh N9 (.tail _ (.head _))) (Nat.ne_of_lt lK.1) (Nat.ne_of_lt lK.2.1) (Nat.ne_of_lt lK.2.2)
    have nS2 : s.heap.get? S = none := hide3n (News.fresh N9 (.head _)) neS.2.1 neS.2.2.1 neS.2.2.2
    have hsz : @LT.lt Nat _ s.heap.objs.size h9.objs.size := by rw [← hL]; exact F9.ns.lt
    have nit : s.heap.get? it = none := Heap.get?_none_of_le (Nat.le_of_lt (Nat.lt_of_lt_of_le hsz hle9))
    have nTT : s.heap.get? TT = none := by
      rcases hTT9 with e | e
      · rw [e]; exact nS2
      · exact Heap.get?_none_of_le (Nat.le_of_lt (Nat.lt_of_lt_of_le hsz e))
    clear F9 N9
    refine turnP fun P hP => ?_
    k_steps
    · rename getB D k = some _ => hg8
      rename rp.isPrefixOf _ = true => hr8
      rename BObj w _ (putB _ _ _) => hB8
      rw [symD_yes hg8 hr8 hkn] at hB8
      refine hP _ ⟨g1, _, _, _, _, rfl, by k_asm, by k_asm, ?_, ⟨_, _, _, _, funext (by intro y9; by_cases c0 : y9 = Str.ofString "src"; (subst c0; with_unfolding_all rfl); by_cases c1 : y9 = Str.ofString "ref_value"; (subst c1; with_unfolding_all rfl); by_cases c2 : y9 = Str.ofString "dst"; (subst c2; with_unfolding_all rfl); by_cases c3 : y9 = Str.ofString "ret"; (subst c3; with_unfolding_all rfl); simp only [if_neg c0, if_neg c1, if_neg c2, if_neg c3]), rfl, hB8, by rw [List.length_append]; exact hdl, hbg1, hfs1, hcl⟩⟩
      · intro p9 hp9
        (repeat (rcases List.mem_cons.mp hp9 with rfl | hp9; (first | exact hI.1 | exact hI.2.1 | exact hI.2.2.1 | exact hI.2.2.2.1 | exact hI.2.2.2.2)))
        cases hp9
    · rename getB D k = some _ => hg8
      rename rp.isPrefixOf _ = false => hr8
      rename RaisedH _ _ _ _ _ => R9
      rename Fr _ _ _ _ => F8
      rename News _ _ _ _ => N8
      have k8 := hcl _ _ F8 (keep_H N8 (by k_mem) (by k_mem) (by k_mem) e1 e2 e3)
      have hnH : ∀ p ∈ [(it, oi), (TT, oT), (S, oS), (K, oK), (dg, o), (r, instObj 281 dx), (dx, refsDict w t1 t2 dg dp)], p.1 ∈ [dg, r, dx] ∨ s.heap.get? p.1 = none := all_cons (.inr nit) (all_cons (.inr nTT) (all_cons (.inr nS2) (all_cons (.inr nK) (all_cons (.inl (.head _)) (all_cons (.inl (.tail _ (.head _))) (all_cons (.inl (.tail _ (.tail _ (.head _)))) all_nil))))))
      refine looks_on (Around.frames_deeper hA) rfl R9 fun h6 R6 => ?_
      obtain ⟨g5, F5, N5, hb5, -, -⟩ := caught2 (H := [dg, r, dx]) R6 rfl hL F8 N8 k8 hfs hb hbf (base_H hbg) sp hnH
      refine clauseF (c := .type "ValueError") (b := true) R6 (fun A' E' Q' q => name_B F5 (X.keeps hb5) (topRead_of (T.keeps hb5)) (by k_is) (by rfl) (by decide) q rfl rfl) (fun A9 E9 Q9 q9 => match_type R6 PySem.F.isExc_ValueError PySem.F.notTuple_ValueError (by rw [isSubtype_type]; kernel_rfl) A9 E9 Q9 q9) (fun _ h7 R7 => ?_) (fun q => by cases q)
      clear F5 N5 hb5
      obtain ⟨g5, F5, N5, hb5, hfs5, hcl5⟩ := caught2 (H := [dg, r, dx]) R7 rfl hL F8 N8 k8 hfs hb hbf (base_H hbg) sp hnH
      have X5 := X.keeps hb5
      have T5 := T.keeps hb5
      clear F8 N8 R6 R7 R9 X2 T2 hcl hfs1 hbg1
      k_steps
      rw [symD_no hg8 hr8] at hSK
      refine hP _ ⟨g5, _, _, _, _, rfl, by k_asm, by k_asm, ?_, ⟨_, _, _, _, funext (by intro y9; by_cases c0 : y9 = Str.ofString "src"; (subst c0; with_unfolding_all rfl); by_cases c1 : y9 = Str.ofString "ref_value"; (subst c1; with_unfolding_all rfl); by_cases c2 : y9 = Str.ofString "dst"; (subst c2; with_unfolding_all rfl); by_cases c3 : y9 = Str.ofString "ret"; (subst c3; with_unfolding_all rfl); simp only [if_neg c0, if_neg c1, if_neg c2, if_neg c3]), rfl, hSK, by rw [List.length_append]; exact hdl, hb5, hfs5, hcl5⟩⟩
      · intro p9 hp9
        (repeat (rcases List.mem_cons.mp hp9 with rfl | hp9; (first | exact hI.1 | exact hI.2.1 | exact hI.2.2.1 | exact hI.2.2.2.1 | exact hI.2.2.2.2)))
        cases hp9
    · exact absurd (by k_asm) hks
    · exact absurd (by k_asm) hks
  · rintro g' m' n' h' d' tk' ks' hperm ⟨oK, r1, r2, r3, rfl, rfl, hSK, hle2, hbg1, hfs1, hcl⟩ F2 N2
    have nK : s.heap.get? K = none := hide3n (News.fresh N9 (.tail _ (.head _))) (Nat.ne_of_lt lK.1) (Nat.ne_of_lt lK.2.1) (Nat.ne_of_lt lK.2.2)
    clear F9 N9 kk9 eS X1 T1
    k_steps
    exact h _ _ _ _ _ ks' (hcl _ _ (by k_asm) (keep_H (by k_asm) (by k_mem) (by k_mem) (by k_mem) e1 e2 e3)) (News.get (by k_asm) (.tail _ (.head _))) nK hSK loK hperm
end
end
example : ∀ w A s Q E, TZ w A s Q E → TZ w A s Q E := by intro w A s Q E h; w_top off; first | (walk1; fail) | exact h
section
section
variable {M : Model} {w : World} {A : Around} {E : Value → Shared → Prop} {s : Shared} {env : Env} {h₁ : Heap} {fs : List Env} {e : Addr} {cls : Value}
theorem RaisedH.push {h : Heap} (R : RaisedH h₁ fs e cls h) (o : Obj) : RaisedH h₁ fs e cls (h.push o) := by
  obtain ⟨a0, ⟨f1, f2, f3, oe, vs, T, oT, ts, t1, t2, t3, t4, t5, t6, t7, t8, t9⟩, hup⟩ := R
  have k : ∀ b ob, h.get? b = some ob → (h.push o).get? b = some ob := fun b ob q => Heap.get?_push_of_some _ q
  exact ⟨a0, ⟨fun b ob q => k _ _ (f1 b ob q), f2, f3.of_keeps fun b ob q _ => ⟨ob, k _ _ q, rfl⟩, oe, vs, T, oT, ts, k _ _ t1, t2, t3, t4, t5, t6, k _ _ t7, t8, t9⟩, hup.trans (Heap.UpToSlots.of_keeps k)⟩
theorem match_tup {C tup : Addr} (hc : cls = .ref C ∨ cls = .type "KeyError") (R : RaisedH h₁ fs e cls s.heap) (hC : IsExcCls s.heap C) (ht : IsTup s.heap tup #[.ref C, .type "KeyError"]) (A' : Around) (E' : Value → Shared → Prop) (Q' : Bool → Shared → Prop) (h : Q' true s) : wpAny M A' (excMatches (.ref e) (.ref tup)) Q' E' s := by
  obtain ⟨a0, hfl, hup⟩ := R
  obtain ⟨ob, he, hcls⟩ := hfl.there
  have hC0 := hC
  obtain ⟨nm, q, N, bs, hdct, sn, sub, ab, col, dd, k0, k1, k2, k3, k5, newId, hC⟩ := hC
  obtain ⟨ot, ho, hct, nt, hdt⟩ := ht
  obtain ⟨hp, g, d, tk, os⟩ := s
  have hcB : (Value.ref C :: [.type "Exception", .type "BaseException", .type "object"]).contains (.type "BaseException") = true := by simp
  have hcC : (Value.ref C :: [.type "Exception", .type "BaseException", .type "object"]).contains (.ref C) = true := by simp
  have f := tc_notTuple
  have k1 := kr_isExc_KeyError
  have k2 := kr_notTuple_KeyError
  unfold excMatches
  refine wpAny_bind (wpAny_isInstance ⟨ot, ho, hct⟩ isSubtype_tuple_tuple ?_)
  dsimp only
  rw [if_pos rfl]
  refine wpAny_bind (wpAny_seqItems ho hdt ?_)
  dsimp only [Option.getD_some, Option.getD]
  rcases hc with hc | hc
  · rw [hc] at hcls
    repeat (first | (with_reducible refine wpAny_loadPart_at he ?_; rw [hcls]) | with_reducible refine wpAny_loadPart_at hC ?_ | (with_reducible refine wpAny_isSubtype_exc hC ?_; first | rw [hcB] | rw [hcC]) | wp_step)
    all_goals exact h
  · rw [hc] at hcls
    have f1 : isSubtype (.type "KeyError") (.ref C) = pure false := sub_type_ref (l := [.type "KeyError", .type "LookupError", .type "Exception", .type "BaseException", .type "object"]) (by rw [mroOf_type]; kernel_rfl) (by simp)
    have f2 : isSubtype (.type "KeyError") (.type "KeyError") = pure true := by rw [isSubtype_type]; kernel_rfl
    repeat (first | (with_reducible refine wpAny_loadPart_at he ?_; rw [hcls]) | with_reducible refine wpAny_loadPart_at hC ?_ | (with_reducible refine wpAny_isSubtype_exc hC ?_; first | rw [hcB] | rw [hcC]) | wp_step)
    all_goals exact h
theorem clauseT {C : Addr} {t1 t2 : PySem.Expr} {kk : Nat} {tpos : Pos} {b₀ : Stmt} {suite : List Stmt} {pos : Pos} {rest : List ExceptHandler} {Q : Flow → Shared → Prop}
    (hc : cls = .ref C ∨ cls = .type "KeyError") (R : RaisedH h₁ fs e cls s.heap) (hC : IsExcCls s.heap C)
    (hn1 : ∀ (A' : Around) (E' : Value → Shared → Prop) (Q' : Value → Shared → Prop), Q' (.ref C) s → wpAny (model PG w) A' (eval t1 env) Q' E' s)
    (hn2 : ∀ (A' : Around) (E' : Value → Shared → Prop) (Q' : Value → Shared → Prop), Q' (.type "KeyError") s → wpAny (model PG w) A' (eval t2 env) Q' E' s)
    (hit : ∀ h', RaisedH h₁ fs e cls h' → wpAny (model PG w) (A.mark (some (.ref e))) (execs (b₀ :: suite) env) Q (fun _ _ => False) { s with heap := h' })
    (he1 : starEach [t1, t2] env = (false, eval t1 env) :: starEach [t2] env := by rfl) (he2 : starEach [t2] env = (false, eval t2 env) :: starEach [] env := by rfl) :
    wpAny (model PG w) A (handleBy (.ref e) env (.ExceptHandler (some (.Tuple [t1, t2] kk tpos)) none (b₀ :: suite) pos :: rest)) Q E s := by
  refine wpAny_handleBy_cons (codeAny_handlers_test ?_) (by intro q; cases q)
  refine Tuple_ (spliced_more (hn1 _ _ _ (spliced_more (hn2 _ _ _ (spliced_none ?_)) he2)) he1)
  refine wpAny_newObj_type ?_
  have R2 := R.push { cls := .type "tuple", dict := none, data := .seq [Value.ref C, .type "KeyError"].toArray }
  have hC2 : IsExcCls (s.heap.push { cls := .type "tuple", dict := none, data := .seq [Value.ref C, .type "KeyError"].toArray }) C := hC.keeps fun b o q => Heap.get?_push_of_some _ q
  refine match_tup (s := { s with heap := s.heap.push { cls := .type "tuple", dict := none, data := .seq [Value.ref C, .type "KeyError"].toArray } }) hc R2 hC2 (IsTup.new _ _) _ _ _ ?_
  obtain ⟨a0, hfl, hup⟩ := R2
  exact codeAny_handlers_suite (lands_againW hfl fun h₆ hfl₆ u₆ => wpAny_mono (hit h₆ ⟨a0, hfl₆, hup.trans u₆⟩) (fun _ _ x => x) fun _ _ h => h.elim)
end
end
example : ∀ w A s Q E, TZ w A s Q E → TZ w A s Q E := by intro w A s Q E h; w_top off; first | (walk1; fail) | exact h
section
noncomputable def endOf (D : DD) (k : Bts) : Option Bts := match followD D 6 k with
  | some (_, some v) => some v
  | _ => none
noncomputable def endD (D : DD) (ks : List Bts) : DD := ks.filterMap fun k => (endOf D k).map fun v => (k, v)
theorem endD_len (D : DD) (ks : List Bts) : (endD D ks).length ≤ ks.length := List.length_filterMap_le _ _
theorem endD_yes {D : DD} {ks ps : List Bts} {k v : Bts} (h : followD D 6 k = some (ps, some v)) (hk : k ∉ ks) : putB (endD D ks) k v = endD D (ks ++ [k]) := by
  have e1 : endD D (ks ++ [k]) = endD D ks ++ [(k, v)] := by
    simp [endD, List.filterMap_append, endOf, h]
  rw [e1]
  unfold putB
  rw [if_neg]
  intro hc
  obtain ⟨p, hp, e⟩ := List.any_eq_true.mp hc
  obtain ⟨k', hk', e'⟩ := List.mem_filterMap.mp hp
  obtain ⟨v', -, rfl⟩ := Option.map_eq_some_iff.mp e'
  simp only [decide_eq_true_eq] at e
  exact hk (e ▸ hk')
theorem endD_no {D : DD} {ks ps : List Bts} {k : Bts} (h : followD D 6 k = some (ps, none)) : endD D ks = endD D (ks ++ [k]) := by
  simp [endD, List.filterMap_append, endOf, h]
theorem endD_loop {D : DD} {ks : List Bts} {k : Bts} (h : followD D 6 k = none) : endD D ks = endD D (ks ++ [k]) := by
  simp [endD, List.filterMap_append, endOf, h]
def gK7.siteTag : Unit := ()
open gK7
section
variable {p9 : Program} {lo9 : List Str} {w : World} {A : Around} {s : Shared} {base : Heap} {mg mb : Str → Option Value} {mean : ExcName → Option Value} {Q E : Value → Shared → Prop}
section
example : True := by
  k_with "gK7 call ref" => (k_here; (try dsimp only [List.nil_append, List.cons_append, List.append_nil]); (with_reducible show wpAny _ _ (call (Value.ref 229) _) _ _ _); k_dflt (refine' spec_allkeys ?sX ?sT ?sb ?sr ?su ?sh ?sR ?sV ?sD ?_; (case sb => exact keep_base (by k_asm) (by k_asm)); (case sX => k_asm); (case sT => k_asm); (case sr => k_room); (case su => k_units); (case sh => k_asm); (case sR => ktr_unf); (case sV => k_asm); (case sD => k_asm)); (all_goals first | ((with_reducible intro S' oS' h' tk' kk' eL' nL' bS'); (k_dflt (have neL := allNe (by k_asm) (by k_asm) nL')); (simp only [AllNe, and_true] at neL); (k_dflt (have N' := news_more (by k_asm) (news_keepAll (by k_asm) kk') eL' nL')); (k_dflt (have F' := fr_keepAll (by k_asm) kk')); (try k_sweep))))
  trivial
set_option maxHeartbeats 4000000 in
theorem spec_keys2 {fs : List Env} {r dg : Addr} {D : DD} (X : (hd.heap_1 w.params).In base) (T : Top p9 lo9 mean mg mb base) (hb : KeepAll base s.heap) (hroom : A.depth + 8 < recursionLimit) (hun : A.units + 80 < cLine) (hhd : A.handled = none) (hR : RefsAt w base fs s.heap r dg D) (hV : ValsOk D) (hD : D.length ≤ 100)
    (h : ∀ S oS h' tk', KeepAll s.heap h' → h'.get? S = some oS → s.heap.get? S = none → SetB w oS (D.map (·.1)) → Q (.ref S) { s with heap := h', toks := tk' }) :
    wpAny (model PG w) A (call (.ref 123) [.ref r, Value.none]) Q E s := by
  refine wpAny_call ?_
  refine' enter_def (binds := [(Str.ofString "self", Value.ref r), (Str.ofString "base", Value.none)]) (X.keeps hb) (T.keeps hb) ?k6 ?k7 ?k8 ?k9 ?kB ?_ ?c2 ?c3 ?c4 ?c5
  case k6 => k_is
  case k7 => k_is
  case k8 => omega
  case k9 => first | exact binds_K (X.keeps hb) rfl (by k_is) rfl rfl rfl | exact BindsTo.of_eq rfl
  case kB => exact locs rfl
  case c2 => exact rfl
  case c3 => exact rfl
  case c4 => exact rfl
  case c5 => decide
  intro L' h' hL F'
  obtain ⟨dx, dp, t1, t2, o, F1, N1, X1, T1, hB, lo, n1, n2, n3, e1, e2, e3, hbg, sp⟩ := hR.open F' X T hb
  clear F'
  (try dsimp only)
  (try k_fold)
  k_steps
  rename _ ∧ _ => ne9
  exact h _ _ _ _ (by ktr_rel) (News.get (by k_asm) (by k_mem)) (hide3n (News.fresh (by k_asm) (by k_mem)) ne9.1 ne9.2.1 ne9.2.2) (by k_asm)
end
example : True := by
  k_with "gK7 call builtin:dict.keys" => (k_here; k_dflt (refine' bkeys ?bF ?bN ?bp ?bB ?lo ?_; (case bF => k_asm); (case bN => k_asm); (case bp => k_mem); (case bB => k_asm); (case lo => k_asm); k_whole); intro h' v' F' N' l1; (try k_lt l1); (try k_sweep))
  k_with "gK7 call type:set" => (k_here; (with_reducible show wpAny _ _ (call (Value.type _) [Value.ref _]) _ _ _); k_dflt (refine' bset_view ?bh ?bF ?bN ?bv ?bp ?bB ?bz ?_; (case bh => k_asm); (case bF => k_asm); (case bN => k_asm); (case bv => k_mem); (case bp => k_mem); (case bB => k_asm); (case bz => k_asm); k_whole); intro h' S' oS' tk' F' N' l1 hS'; (try k_lt l1); (try k_sweep))
  k_with "gK7 call type:set" => (k_here; (with_reducible show wpAny _ _ (call (Value.type _) []) _ _ _); k_dflt (refine' set_nilN ?bF ?bN ?_; (case bF => k_asm); (case bN => k_asm); k_whole); intro h' S' F' N' l1; (try k_lt l1); (try k_sweep))
  k_with "gK7 call type:set nil nil" => (k_here; k_dflt (refine' set_nilN ?bF ?bN ?_; (case bF => k_asm); (case bN => k_asm); k_whole); intro h' S' F' N' l1; (try k_lt l1); (try k_sweep))
  k_with "gK7 getMethod ref" => (k_here; (with_reducible show wpAny _ _ (getMethod (Value.ref _) (PySem.Str.ofString "add") _) _ _ _); k_dflt (refine' addM ?bN ?bp ?bS ?_; (case bN => k_asm); (case bp => k_mem); (case bS => k_asm); k_whole))
  k_with "gK7 call builtin:set.add" => (k_here; k_dflt (refine' addN ?bF ?bN ?bU ?bS ?bz ?_; (case bF => k_asm); (case bN => k_asm); (case bU => k_updF); (case bS => k_asm); (case bz => k_asm); k_whole); intro h' o' F' N' hS'; (try dsimp only at N'); (try k_sweep))
  k_with "gK7 call ref" => (k_here; (try dsimp only [List.nil_append, List.cons_append, List.append_nil]); (with_reducible show wpAny _ _ (call (Value.ref 123) _) _ _ _); k_dflt (refine' spec_keys2 ?sX ?sT ?sb ?sr ?su ?sh ?sR ?sV ?sD ?_; (case sb => exact keep_base (by k_asm) (by k_asm)); (case sX => k_asm); (case sT => k_asm); (case sr => k_room); (case su => k_units); (case sh => k_asm); (case sR => ktr_unf); (case sV => k_asm); (case sD => k_asm)); (all_goals first | ((with_reducible intro S oS h8 tk8 kk9 eS nS bS); (k_dflt (have neS := allNe (by k_asm) (by k_asm) nS)); (simp only [AllNe, and_true] at neS); (k_dflt (have N' := news_more (by k_asm) (news_keepAll (by k_asm) kk9) eS nS)); (k_dflt (have F' := fr_keepAll (by k_asm) kk9)); (try k_sweep))))
  k_with "gK7 call ref" => (k_here; (try dsimp only [List.nil_append, List.cons_append, List.append_nil]); (with_reducible show wpAny _ _ (call (Value.ref 180) _) _ _ _); k_dflt (refine' spec_getitem ?sX ?sT ?sb ?sr ?su ?sh ?sR ?sV ?sk ?sA ?sF ?_ ?_ ?_; (case sb => exact keep_base (by k_asm) (by k_asm)); (case sX => k_asm); (case sT => k_asm); (case sr => k_room); (case su => k_units); (case sh => k_asm); (case sA => exact Around.frames_deeper (by k_asm)); (case sF => exact frames_push (by k_asm) (FramesOk.keep (by k_asm) (by ktr_rel)) (by first | exact rfl | k_asm) rfl); (case sR => exact refs_at3 (by k_asm) (by k_asm) (by k_asm) rfl (by k_asm) (by k_mem) (by k_mem) (by k_mem) (by k_asm) (by k_asm)); (case sV => k_asm); (case sk => k_asm)); (all_goals first | ((with_reducible intro ps' v' t' h' tk' hf' kk'); (have F' := fr_keepAll (by k_asm) kk'); (have N' := news_keepAll (by k_asm) kk'); (try k_sweep)) | ((with_reducible intro ps' hf' h' tk' e' R'); (with_reducible replace R' : RaisedH _ _ _ _ _ := R')) | ((with_reducible intro hf' h' tk' e' R'); (with_reducible replace R' : RaisedH _ _ _ _ _ := R'))))
  k_with "gK7 call ref" => (k_here; (try dsimp only [List.nil_append, List.cons_append, List.append_nil]); (with_reducible show wpAny _ _ (call (Value.ref 67) _) _ _ _); k_dflt (refine' spec_Ref ?sX ?sT ?sb ?sr ?su ?sh ?_; (case sb => exact keep_base (by k_asm) (by k_asm)); (case sX => k_asm); (case sT => k_asm); (case sr => k_room); (case su => k_units); (case sh => k_asm)); (all_goals first | ((with_reducible intro h' tk' kk'); (have F' := fr_keepAll (by k_asm) kk'); (have N' := news_keepAll (by k_asm) kk'); (try k_sweep))))
  k_with "gK7 exec For Name Call cons nil" => (with_unfolding_all refine for_free ?_)
  k_with "gK7 exec For Name Name cons nil" => (with_unfolding_all refine for_free ?_)
  k_with "gK7 pyIter ref" => (refine iter_stopK ?_)
  k_with "gK7 ktr_rel" => (exact Fr.keep (by k_asm))
  trivial
inductive JAs (w : World) (h0 base : Heap) (fs : List Env) (L' r dg dx S K : Addr) (oS o : Obj) (t1 t2 : Tok) (dp : Addr) (D : DD) (dn : List Bts) (g1 : Heap) (m1 : Str → Option Value) (n1 : List (Addr × Obj)) : Prop
  | mk (oK : Obj) (r1 : Option Value) (tb : Tok) (em : m1 = (fun y => if y = Str.ofString "key" then r1 else if y = Str.ofString "base_bytes" then some (Value.bytes #[] tb) else if y = Str.ofString "keys" then some (Value.ref S) else if y = Str.ofString "ret" then some (Value.ref K) else List.lookup y [(Str.ofString "self", Value.ref r), (Str.ofString "base", Value.none)].reverse)) (en : n1 = [(S, oS), (K, oK), (dg, o), (r, instObj 281 dx), (dx, refsDict w t1 t2 dg dp)]) (hB : BObj w oK (endD D dn)) (hl : dn.length ≤ 100) (hb : KeepAll base g1) (hf : FramesOk g1 fs) (hc : ∀ h3 m3, Fr g1 L' h3 m3 → (∀ b ∈ [dg, r, dx], ∀ o', h0.get? b = some o' → h3.get? b = some o') → KeepF fs h0 h3)
set_option maxHeartbeats 4000000 in
theorem spec_asdict {fs : List Env} {r dg : Addr} {D : DD} (X : (hd.heap_1 w.params).In base) (T : Top p9 lo9 mean mg mb base) (hb : KeepAll base s.heap) (hroom : A.depth + 14 < recursionLimit) (hun : A.units + 140 < cLine) (hhd : A.handled = none) (hR : RefsAt w base fs s.heap r dg D) (hV : ValsOk D) (hD : D.length ≤ 100) (hA : A.frames = some fs) (hfs : FramesOk s.heap fs) (hbf : ∀ b ∈ frs fs, base.get? b = none) (hnd : (D.map (·.1)).Nodup) (hkl : ∀ k ∈ D.map (·.1), k.length ≤ 64) (hst : ∀ k ∈ D.map (·.1), stripB (47 :: k) [47] = k)
    (h : ∀ d o h' d' tk' ks, KeepF fs s.heap h' → h'.get? d = some o → s.heap.get? d = none → BObj w o (endD D ks) → (d == sysModules) = false → ks.Perm (D.map (·.1)) → Q (.ref d) { s with heap := h', drawn := d', toks := tk' }) :
    wpAny (model PG w) A (call (.ref 138) [.ref r]) Q E s := by
  refine wpAny_call ?_
  refine' enter_def (binds := [(Str.ofString "self", Value.ref r), (Str.ofString "base", Value.none)]) (X.keeps hb) (T.keeps hb) ?k6 ?k7 ?k8 ?k9 ?kB ?_ ?c2 ?c3 ?c4 ?c5
  case k6 => k_is
  case k7 => k_is
  case k8 => omega
  case k9 => first | exact binds_K (X.keeps hb) rfl (by k_is) rfl rfl rfl | exact BindsTo.of_eq rfl
  case kB => exact locs rfl
  case c2 => exact rfl
  case c3 => exact rfl
  case c4 => exact rfl
  case c5 => decide
  intro L' h' hL F'
  obtain ⟨dx, dp, t1, t2, o, F1, N1, X1, T1, hB, lo, n1, n2, n3, e1, e2, e3, hbg, sp⟩ := hR.open F' X T hb
  clear F'
  (try dsimp only)
  (try k_fold)
  k_steps
  rename_i K _ oK0 loK hsK _ _ _ lK _ _ h9 F9 N9
  have hnil : BObj w oK0 (endD D []) := BObj.new hsK
  have hfl := frs_lt hfs
  rw [← hL] at hfl
  show wpAny _ _ (pyIter _) _ _ _
  refine for_setG (s := { s with heap := h9, toks := _ }) hhd F9 N9 (.head _) bS (by rw [List.length_map]; omega) (J := JAs w s.heap base fs L' r dg dx S K oS o t1 t2 dp D) ?_ ?_ ?_ ?_
  · rintro dn g1 m1 n1 ⟨oK, r1, tb, -, rfl, -⟩; exact .head _
  · refine ⟨_, none, _, funext (by intro y9; by_cases c0 : y9 = Str.ofString "key"; (subst c0; with_unfolding_all rfl); by_cases c1 : y9 = Str.ofString "base_bytes"; (subst c1; with_unfolding_all rfl); by_cases c2 : y9 = Str.ofString "keys"; (subst c2; with_unfolding_all rfl); by_cases c3 : y9 = Str.ofString "ret"; (subst c3; with_unfolding_all rfl); simp only [if_neg c0, if_neg c1, if_neg c2, if_neg c3]), rfl, hnil, Nat.zero_le _, hbg, FramesOk.hide hfs sp, fun h3 m3 F3 hH => KeepF.of fun b ob q => ?_⟩
    by_cases hbn : b ∈ [dg, r, dx]
    · exact hH b hbn ob q
    · exact F3.keep _ _ (hideAll_get _ q hbn)
  · rintro Q9 E9 dn k rest t g1 m1 n1 it oi TT oT h1 d1 tk1 hperm ⟨oK, r1, tb, rfl, rfl, hSK, hle2, hbg1, hfs1, hcl⟩ F2 N2 hlt hTl hTit hne hle9 hTT9
    have hkn := perm_new hperm hnd
    have hkD : k ∈ D.map (·.1) := hperm.mem_iff.mp (by simp)
    have hk65 := hkl k hkD
    have hst9 := hst k hkD
    have hk64 : (stripB (47 :: k) [47]).length ≤ 64 := by rw [hst9]; exact hk65
    have hdl : dn.length + 1 ≤ 100 := by
      have := hperm.length_eq
      simp only [List.length_append, List.length_cons, List.length_map] at this
      omega
    have hzz : (endD D dn).length ≤ 16777216 := Nat.le_trans (endD_len D dn) (by omega)
    have hK2 : @Ne Nat K TT := by
      rcases hTl with rfl | q
      · exact neS.1
      · exact Nat.ne_of_lt (q (K, _) (.tail _ (.head _)))
    have hI : @Ne Nat S it ∧ @Ne Nat K it ∧ @Ne Nat dg it ∧ @Ne Nat r it ∧ @Ne Nat dx it := ⟨Nat.ne_of_lt (hlt (S, _) (.head _)), Nat.ne_of_lt (hlt (K, _) (.tail _ (.head _))), Nat.ne_of_lt (hlt (dg, _) (.tail _ (.tail _ (.head _)))), Nat.ne_of_lt (hlt (r, _) (.tail _ (.tail _ (.tail _ (.head _))))), Nat.ne_of_lt (hlt (dx, _) (.tail _ (.tail _ (.tail _ (.tail _ (.head _))))))⟩
    have X2 := X.keeps hbg1
    have T2 := T.keeps hbg1
    clear kk9 eS X1 T1
    have nK : s.heap.get? K = none := hide3n (News.fresh N9 (.tail _ (.head _))) (Nat.ne_of_lt lK.1) (Nat.ne_of_lt lK.2.1) (Nat.ne_of_lt lK.2.2)
    have nS2 : s.heap.get? S = none := hide3n (News.fresh N9 (.head _)) neS.2.1 neS.2.2.1 neS.2.2.2
    have hsz : @LT.lt Nat _ s.heap.objs.size h9.objs.size := by rw [← hL]; exact F9.ns.lt
    have nit : s.heap.get? it = none := Heap.get?_none_of_le (Nat.le_of_lt (Nat.lt_of_lt_of_le hsz hle9))
    have nTT : s.heap.get? TT = none := by
      rcases hTT9 with e | e
      · rw [e]; exact nS2
      · exact Heap.get?_none_of_le (Nat.le_of_lt (Nat.lt_of_lt_of_le hsz e))
    have neI : @Ne Nat it S ∧ @Ne Nat it K ∧ @Ne Nat it dg ∧ @Ne Nat it r ∧ @Ne Nat it dx := ⟨hI.1.symm, hI.2.1.symm, hI.2.2.1.symm, hI.2.2.2.1.symm, hI.2.2.2.2.symm⟩
    clear F9 N9
    refine turnP fun P hP => ?_
    k_steps
    · rename followD D 6 _ = some (_, some _) => hf8
      rename BObj w _ (putB _ _ _) => hB8
      rw [hst9] at hf8
      rw [endD_yes hf8 hkn] at hB8
      refine hP _ ⟨g1, _, _, _, _, rfl, by k_asm, by k_asm, ?_, ⟨_, _, _, funext (by intro y9; by_cases c0 : y9 = Str.ofString "key"; (subst c0; with_unfolding_all rfl); by_cases c1 : y9 = Str.ofString "base_bytes"; (subst c1; with_unfolding_all rfl); by_cases c2 : y9 = Str.ofString "keys"; (subst c2; with_unfolding_all rfl); by_cases c3 : y9 = Str.ofString "ret"; (subst c3; with_unfolding_all rfl); simp only [if_neg c0, if_neg c1, if_neg c2, if_neg c3]), rfl, hB8, by rw [List.length_append]; exact hdl, hbg1, hfs1, hcl⟩⟩
      · intro p9 hp9
        (repeat (rcases List.mem_cons.mp hp9 with rfl | hp9; (first | exact hI.1 | exact hI.2.1 | exact hI.2.2.1 | exact hI.2.2.2.1 | exact hI.2.2.2.2)))
        cases hp9
    all_goals (rename followD D 6 _ = _ => hf8; rename RaisedH _ _ _ _ _ => R9; rename Fr _ _ _ _ => F8; rename News _ _ _ _ => N8; rw [hst9] at hf8)
    · rw [endD_no hf8] at hSK
      have k8 := hcl _ _ F8 (keep_H N8 (by k_mem) (by k_mem) (by k_mem) e1 e2 e3)
      have hnH : ∀ p ∈ [(it, oi), (TT, oT), (S, oS), (K, oK), (dg, o), (r, instObj 281 dx), (dx, refsDict w t1 t2 dg dp)], p.1 ∈ [dg, r, dx] ∨ s.heap.get? p.1 = none := all_cons (.inr nit) (all_cons (.inr nTT) (all_cons (.inr nS2) (all_cons (.inr nK) (all_cons (.inl (.head _)) (all_cons (.inl (.tail _ (.head _))) (all_cons (.inl (.tail _ (.tail _ (.head _)))) all_nil))))))
      refine looks_on (Around.frames_deeper hA) rfl R9 fun h6 R6 => ?_
      obtain ⟨g5, F5, N5, hb5, -, -⟩ := caught2 (H := [dg, r, dx]) R6 rfl hL F8 N8 k8 hfs hb hbf (base_H hbg) sp hnH
      refine clauseT (C := 84) (.inr rfl) R6 ((cls84 X).keeps (keep_base F5 hb5)) (fun A' E' Q' q => name_K F5 (X.keeps hb5) (topRead_of (T.keeps hb5)) (by k_is) q rfl rfl) (fun A' E' Q' q => name_B F5 (X.keeps hb5) (topRead_of (T.keeps hb5)) (by k_is) (by rfl) (by decide) q rfl rfl) (fun h7 R7 => ?_)
      clear F5 N5 hb5
      obtain ⟨g5, F5, N5, hb5, hfs5, hcl5⟩ := caught2 (H := [dg, r, dx]) R7 rfl hL F8 N8 k8 hfs hb hbf (base_H hbg) sp hnH
      have X5 := X.keeps hb5
      have T5 := T.keeps hb5
      clear F8 N8 R6 R7 R9 X2 T2 hcl hfs1 hbg1
      k_steps
      refine hP _ ⟨g5, _, _, _, _, rfl, by k_asm, by k_asm, ?_, ⟨_, _, _, funext (by intro y9; by_cases c0 : y9 = Str.ofString "key"; (subst c0; with_unfolding_all rfl); by_cases c1 : y9 = Str.ofString "base_bytes"; (subst c1; with_unfolding_all rfl); by_cases c2 : y9 = Str.ofString "keys"; (subst c2; with_unfolding_all rfl); by_cases c3 : y9 = Str.ofString "ret"; (subst c3; with_unfolding_all rfl); simp only [if_neg c0, if_neg c1, if_neg c2, if_neg c3]), rfl, hSK, by rw [List.length_append]; exact hdl, hb5, hfs5, hcl5⟩⟩
      · intro p9 hp9
        (repeat (rcases List.mem_cons.mp hp9 with rfl | hp9; (first | exact hI.1 | exact hI.2.1 | exact hI.2.2.1 | exact hI.2.2.2.1 | exact hI.2.2.2.2)))
        cases hp9
    · rw [endD_loop hf8] at hSK
      have k8 := hcl _ _ F8 (keep_H N8 (by k_mem) (by k_mem) (by k_mem) e1 e2 e3)
      have hnH : ∀ p ∈ [(it, oi), (TT, oT), (S, oS), (K, oK), (dg, o), (r, instObj 281 dx), (dx, refsDict w t1 t2 dg dp)], p.1 ∈ [dg, r, dx] ∨ s.heap.get? p.1 = none := all_cons (.inr nit) (all_cons (.inr nTT) (all_cons (.inr nS2) (all_cons (.inr nK) (all_cons (.inl (.head _)) (all_cons (.inl (.tail _ (.head _))) (all_cons (.inl (.tail _ (.tail _ (.head _)))) all_nil))))))
      refine looks_on (Around.frames_deeper hA) rfl R9 fun h6 R6 => ?_
      obtain ⟨g5, F5, N5, hb5, -, -⟩ := caught2 (H := [dg, r, dx]) R6 rfl hL F8 N8 k8 hfs hb hbf (base_H hbg) sp hnH
      refine clauseT (C := 84) (.inl rfl) R6 ((cls84 X).keeps (keep_base F5 hb5)) (fun A' E' Q' q => name_K F5 (X.keeps hb5) (topRead_of (T.keeps hb5)) (by k_is) q rfl rfl) (fun A' E' Q' q => name_B F5 (X.keeps hb5) (topRead_of (T.keeps hb5)) (by k_is) (by rfl) (by decide) q rfl rfl) (fun h7 R7 => ?_)
      clear F5 N5 hb5
      obtain ⟨g5, F5, N5, hb5, hfs5, hcl5⟩ := caught2 (H := [dg, r, dx]) R7 rfl hL F8 N8 k8 hfs hb hbf (base_H hbg) sp hnH
      have X5 := X.keeps hb5
      have T5 := T.keeps hb5
      clear F8 N8 R6 R7 R9 X2 T2 hcl hfs1 hbg1
      k_steps
      refine hP _ ⟨g5, _, _, _, _, rfl, by k_asm, by k_asm, ?_, ⟨_, _, _, funext (by intro y9; by_cases c0 : y9 = Str.ofString "key"; (subst c0; with_unfolding_all rfl); by_cases c1 : y9 = Str.ofString "base_bytes"; (subst c1; with_unfolding_all rfl); by_cases c2 : y9 = Str.ofString "keys"; (subst c2; with_unfolding_all rfl); by_cases c3 : y9 = Str.ofString "ret"; (subst c3; with_unfolding_all rfl); simp only [if_neg c0, if_neg c1, if_neg c2, if_neg c3]), rfl, hSK, by rw [List.length_append]; exact hdl, hb5, hfs5, hcl5⟩⟩
      · intro p9 hp9
        (repeat (rcases List.mem_cons.mp hp9 with rfl | hp9; (first | exact hI.1 | exact hI.2.1 | exact hI.2.2.1 | exact hI.2.2.2.1 | exact hI.2.2.2.2)))
        cases hp9
  · rintro g' m' n' h' d' tk' ks' hperm ⟨oK, r1, tb, rfl, rfl, hSK, hle2, hbg1, hfs1, hcl⟩ F2 N2
    have nK : s.heap.get? K = none := hide3n (News.fresh N9 (.tail _ (.head _))) (Nat.ne_of_lt lK.1) (Nat.ne_of_lt lK.2.1) (Nat.ne_of_lt lK.2.2)
    clear F9 N9 kk9 eS X1 T1
    k_steps
    exact h _ _ _ _ _ ks' (hcl _ _ (by k_asm) (keep_H (by k_asm) (by k_mem) (by k_mem) (by k_mem) e1 e2 e3)) (News.get (by k_asm) (.tail _ (.head _))) nK hSK loK hperm
end
end
example : ∀ w A s Q E, TZ w A s Q E → TZ w A s Q E := by intro w A s Q E h; w_top off; first | (walk1; fail) | exact h
section
structure Apart2 (it v da de lD dp rr dx dh dg L : Addr) (codes : List (Addr × Obj)) : Prop where
  ap : Apart lD lD dp rr dx dh dg L codes
  b1 : @LT.lt Nat _ lD de
  b2 : @LT.lt Nat _ de da
  b3 : @LT.lt Nat _ da v
  b4 : @LT.lt Nat _ v it
  b5 : ∀ p ∈ codes, @LT.lt Nat _ p.1 de
noncomputable abbrev ENews (it v da de lD dp rr dx dh dg L : Addr) (oi ov oa oe ol op or ox oh og oR oO oG oF oS o4 o1 : Obj) (codes : List (Addr × Obj)) : List (Addr × Obj) :=
  (it, oi) :: (v, ov) :: (da, oa) :: (de, oe) :: LNews lD lD dp rr dx dh dg L ol ol op or ox oh og oR oO oG oF oS o4 o1 codes
section
variable {it v da de lD dp rr dx dh dg L : Addr} {oi ov oa oe ol op or ox oh og oR oO oG oF oS o4 o1 : Obj} {codes : List (Addr × Obj)}
theorem Apart2.low (a2 : Apart2 it v da de lD dp rr dx dh dg L codes) : ∀ p ∈ LNews lD lD dp rr dx dh dg L ol ol op or ox oh og oR oO oG oF oS o4 o1 codes, @LT.lt Nat _ p.1 de := fun p hp => by
  rcases List.mem_cons.mp hp with rfl | hp
  · exact a2.b1
  rcases List.mem_cons.mp hp with rfl | hp
  · exact a2.b1
  rcases List.mem_append.mp (show p ∈ ([(dp, op), (rr, or), (dx, ox), (dh, oh), (dg, og), (L + 1 + 1 + 1 + 1 + 1, oR), (L + 1 + 1 + 1 + 1, oO), (L + 1 + 1 + 1, oG), (L + 1 + 1, oF), (L + 1, oS), (348, o4), (103, o1)] : List (Addr × Obj)) ++ codes from hp) with h | h
  · exact Nat.lt_trans (a2.ap.low p.1 (List.mem_map_of_mem (f := Prod.fst) h)) a2.b1
  · exact a2.b5 p h
theorem updS2 (a2 : Apart2 it v da de lD dp rr dx dh dg L codes) : UpdF (L + 1) oS (ENews it v da de lD dp rr dx dh dg L oi ov oa oe ol op or ox oh og oR oO oG oF oS o4 o1 codes) (fun oS => ENews it v da de lD dp rr dx dh dg L oi ov oa oe ol op or ox oh og oR oO oG oF oS o4 o1 codes) := by
  have h := Nat.lt_trans (a2.ap.low (L + 1) (by k_mem)) a2.b1
  have h2 := Nat.lt_trans h a2.b2
  have h3 := Nat.lt_trans h2 a2.b3
  exact .tail (Nat.ne_of_gt (Nat.lt_trans h3 a2.b4)) (.tail (Nat.ne_of_gt h3) (.tail (Nat.ne_of_gt h2) (.tail (Nat.ne_of_gt h) (updS a2.ap))))
theorem updE2 (a2 : Apart2 it v da de lD dp rr dx dh dg L codes) : UpdF de oe (ENews it v da de lD dp rr dx dh dg L oi ov oa oe ol op or ox oh og oR oO oG oF oS o4 o1 codes) (fun oe => ENews it v da de lD dp rr dx dh dg L oi ov oa oe ol op or ox oh og oR oO oG oF oS o4 o1 codes) :=
  have h := Nat.lt_trans a2.b2 a2.b3
  .tail (Nat.ne_of_gt (Nat.lt_trans h a2.b4)) (.tail (Nat.ne_of_gt h) (.tail (Nat.ne_of_gt a2.b2) (.head fun p hp => Nat.ne_of_lt (a2.low p hp))))
theorem updA2 (a2 : Apart2 it v da de lD dp rr dx dh dg L codes) : UpdF da oa (ENews it v da de lD dp rr dx dh dg L oi ov oa oe ol op or ox oh og oR oO oG oF oS o4 o1 codes) (fun oa => ENews it v da de lD dp rr dx dh dg L oi ov oa oe ol op or ox oh og oR oO oG oF oS o4 o1 codes) :=
  .tail (Nat.ne_of_gt (Nat.lt_trans a2.b3 a2.b4)) (.tail (Nat.ne_of_gt a2.b3) (.head (ncons (Nat.ne_of_lt a2.b2) fun p hp => Nat.ne_of_lt (Nat.lt_trans (a2.low p hp) a2.b2))))
theorem neIt (a2 : Apart2 it v da de lD dp rr dx dh dg L codes) : ∀ p ∈ ((v, ov) :: (da, oa) :: (de, oe) :: LNews lD lD dp rr dx dh dg L ol ol op or ox oh og oR oO oG oF oS o4 o1 codes), p.1 ≠ it := by
  have h1 := Nat.lt_trans a2.b3 a2.b4
  have h2 := Nat.lt_trans a2.b2 h1
  exact ncons (Nat.ne_of_lt a2.b4) (ncons (Nat.ne_of_lt h1) (ncons (Nat.ne_of_lt h2) fun p hp => Nat.ne_of_lt (Nat.lt_trans (a2.low p hp) h2)))
end
theorem not_taken {l : List Bts} {i : Nat} {k : Bts} (hn : l.Nodup) (h : l[i]? = some k) : k ∉ l.take i := fun hm => by
  obtain ⟨hlt, e⟩ := List.getElem?_eq_some_iff.mp h
  have h1 : l = l.take i ++ l.drop i := (List.take_append_drop i l).symm
  rw [h1] at hn
  refine (List.nodup_append.mp hn).2.2 k hm k ?_ rfl
  rw [List.drop_eq_getElem_cons hlt, e]; exact .head _
theorem take_next {l : List Bts} {i : Nat} {k : Bts} (h : l[i]? = some k) : l.take (i + 1) = l.take i ++ [k] := by rw [List.take_add_one, h]; rfl
theorem val_at {D : DD} {i : Nat} {k : Bts} (gD : Good D) (h : (D.map (·.1))[i]? = some k) : ∃ x, getB D k = some x ∧ x ∈ okVals ∧ k ∈ names6 := by
  rw [List.getElem?_map, Option.map_eq_some_iff] at h
  obtain ⟨p, hp, rfl⟩ := h
  have hm := List.mem_of_getElem? hp
  exact ⟨p.2, getB_self gD.2 p hm, (gD.1 p hm).2, (gD.1 p hm).1⟩
theorem val_cut : ∀ x ∈ okVals, (sliceB x none (some 5) == [114, 101, 102, 58, 32]) = rp.isPrefixOf x ∧ (rp.isPrefixOf x = true → sliceB x (some 5) none = rstripB (x.drop 5) [13, 10]) := by decide +kernel
theorem name_strip : ∀ k ∈ names6, stripB (47 :: k) [47] = k := by decide +kernel
theorem symD_len2 (D : DD) (l : List Bts) (h : l.length ≤ 100) : (symD D l).length ≤ 16777216 := Nat.le_trans (symD_len D l) (Nat.le_trans h (by decide))
theorem endD_len2 (D : DD) (l : List Bts) (h : l.length ≤ 100) : (endD D l).length ≤ 16777216 := Nat.le_trans (endD_len D l) (Nat.le_trans h (by decide))
end
example : ∀ w A s Q E, TZ w A s Q E → TZ w A s Q E := by intro w A s Q E h; w_top off; first | (walk1; fail) | exact h
section
def gTK.siteTag : Unit := ()
open gTK
open LG
example : True := by
  k_with "gTK compareOp NotEq ref ref" => (refine iter_stopF ?_)
  k_with "gTK call builtin:sorted" => (refine iter_stopF ?_)
  k_with "gTK k_updF" => (first | exact updS2 (by k_asm) | exact updE2 (by k_asm) | exact updA2 (by k_asm))
  k_with "gTK subscriptTail" => ((with_reducible show wpAny _ _ (subscriptTail (Expr.Name (Str.ofString "chain") _) _ _ _) _ _ _); refine iter_stopF ?_)
  k_with "gTK subscriptTail" => ((with_reducible show wpAny _ _ (subscriptTail (Expr.Name (Str.ofString "held") _) _ _ _) _ _ _); refine iter_stopF ?_)
  k_with "gTK setItem ref" => (refine iter_stopF ?_)
  trivial
section
inductive JEn (w : World) (v da de lD dp rr dx dh dg L lS : Addr) (ol op oh og oR oO oG oF : Obj) (t1 t2 : Tok) (ps ps3 : Array Value) (codes : List (Addr × Obj)) (D : DD) (m : Str → Option Value) (i : Nat) (m1 : Str → Option Value) (n1 : List (Addr × Obj)) : Prop
  | mk (oe' oa' oS' : Obj) (vS' r : Option Value) (em : m1 = (fun y => if y = Str.ofString "chain" then r else if y = Str.ofString "aims" then some (Value.ref da) else if y = Str.ofString "ends" then some (Value.ref de) else if y = Str.ofString "script" then some (Value.ref lS) else if y = Str.ofString "held" then some (Value.ref dh) else if y = Str.ofString "given" then some (Value.ref dg) else m y)) (en : n1 = (v, viewObj dh) :: (da, oa') :: (de, oe') :: LNews lD lD dp rr dx dh dg L ol ol op (instObj 281 dx) (refsDict w t1 t2 dg dp) oh og oR oO oG oF oS' (tabObj ps) (tabObj ps3) codes) (d : oS'.data = .cell vS') (he : BObj w oe' (endD D ((D.map (·.1)).take i))) (ha : BObj w oa' (symD D ((D.map (·.1)).take i)))
set_option maxHeartbeats 4000000 in
theorem loop_ends : ∃ scope b, forOf 9 = some (scope, b) ∧ ∀ {p9 : Program} {lo9 : List Str} {w : World} {A : Around} {g h : Heap} {L fa lS lD dp rr dx dh dg v da de : Addr} {ol op oh og oR oO oG oF oS oe oa : Obj} {t1 t2 : Tok} {ps ps3 : Array Value} {codes : List (Addr × Obj)} {D : DD} {mg mb m : Str → Option Value} {mean : ExcName → Option Value} {Q : Flow → Shared → Prop} {E : Value → Shared → Prop} {gs : Array GenState} {dr : Drawn} {tk : Nat} {os : OsState} {px : Pos} {vS : Option Value}, (hd.heap_1 w.params).In g → Top p9 lo9 mean mg mb g → A.depth + 60 < recursionLimit → A.units + 600 < cLine → A.handled = none → Good D → Fr g L h (fun y => if y = Str.ofString "aims" then some (Value.ref da) else if y = Str.ofString "ends" then some (Value.ref de) else if y = Str.ofString "script" then some (Value.ref lS) else if y = Str.ofString "held" then some (Value.ref dh) else if y = Str.ofString "given" then some (Value.ref dg) else m y) → News g L h ((v, viewObj dh) :: (da, oa) :: (de, oe) :: LNews lD lD dp rr dx dh dg L ol ol op (instObj 281 dx) (refsDict w t1 t2 dg dp) oh og oR oO oG oF oS (tabObj ps) (tabObj ps3) codes) → Apart lD lD dp rr dx dh dg L codes → @LT.lt Nat _ lD de → @LT.lt Nat _ de da → @LT.lt Nat _ da v → (∀ p ∈ codes, @LT.lt Nat _ p.1 de) →
    oS.data = .cell vS → BObj w oh D → BObj w oe [] → BObj w oa [] →
    (∀ h' tk' oe' oa' oS' vS' r, Fr g L h' (fun y => if y = Str.ofString "chain" then r else if y = Str.ofString "aims" then some (Value.ref da) else if y = Str.ofString "ends" then some (Value.ref de) else if y = Str.ofString "script" then some (Value.ref lS) else if y = Str.ofString "held" then some (Value.ref dh) else if y = Str.ofString "given" then some (Value.ref dg) else m y) → News g L h' ((v, viewObj dh) :: (da, oa') :: (de, oe') :: LNews lD lD dp rr dx dh dg L ol ol op (instObj 281 dx) (refsDict w t1 t2 dg dp) oh og oR oO oG oF oS' (tabObj ps) (tabObj ps3) codes) → oS'.data = .cell vS' → BObj w oe' (endD D (D.map (·.1))) → BObj w oa' (symD D (D.map (·.1))) → Q .next ⟨h', gs, dr, tk', os⟩) → 
    wpAny (model PG w) A (pyIter (.ref v)) (fun it s₂ => ForIt PG w A (envOfC (Str.ofString "law") scope L fa (.ref 350)) (.Name (Str.ofString "spot") px) b Q E it s₂) E ⟨h, gs, dr, tk, os⟩ := by
  refine ⟨_, _, by rfl, ?_⟩
  intro p9 lo9 w A g h L fa lS lD dp rr dx dh dg v da de ol op oh og oR oO oG oF oS oe oa t1 t2 ps ps3 codes D mg mb m mean Q E gs dr tk os px vS X T hroom hun hhd gD F N ap l1 l2 l3 l4 dS hBh hBe hBa hQ
  have loH := lo_dh ap
  have hrefl : KeepAll g g := fun _ _ e => e
  obtain ⟨kvs, hd1, hk⟩ := id hBh
  obtain ⟨ep, ha⟩ := KdkAt.of hd1
  have hdlt : @LT.lt Nat _ dh h.objs.size := Heap.lt_size (N (dh, oh) (by k_mem)).1
  have vlt : @LT.lt Nat _ v h.objs.size := Heap.lt_size (N (v, _) (.head _)).1
  have a2 : Apart2 h.objs.size v da de lD dp rr dx dh dg L codes := ⟨ap, l1, l2, l3, vlt, l4⟩
  refine kdl_pyIter_keys ⟨_, (N _ (.head _)).1, rfl, rfl⟩ (ha.dictAt (N (dh, oh) (by k_mem)).1) ?_
  have up : KeepAll h (h.push { cls := .type "dict_keyiterator", data := .fields #[.ref dh, .int 0 0, .int kvs.length 0, .int ep 0] }) := fun b o e => Heap.get?_push_of_some _ e
  have hkk := hk.keys
  refine for_walksL (s := ⟨_, gs, dr, tk, os⟩) (W := Walks.dictKeys (knd := bytesKind PG w) hhd h.objs.size dh (Nat.ne_of_lt hdlt) kvs ep) (fun i h st => let ⟨⟨o, e, _⟩, _⟩ := st; ⟨o, e⟩) (fun _ => oh) (fun _ _ _ _ h => go_name h)
    (J := JEn w v da de lD dp rr dx dh dg L lS ol op oh og oR oO oG oF t1 t2 ps ps3 codes D m) ?_
    (F.keeps up) (news_more F (news_keepAll N up) (Heap.get?_push_size _ rfl) (fresh_size _)) (neIt a2) ⟨⟨_, Heap.get?_push_size _ rfl, rfl, rfl⟩, (ha.dictAt (N (dh, oh) (by k_mem)).1).push _⟩ ⟨oe, oa, oS, vS, m (Str.ofString "chain"), funext (by intro y9; by_cases c0 : y9 = Str.ofString "chain"; (subst c0; with_unfolding_all rfl); simp only [if_neg c0]), rfl, dS, hBe, hBa⟩ (fun _ _ => False) (fun _ _ q => q.elim) ?_ ?_
  · rintro i m1 n1 ⟨oe', oa', oS', vS', r, rfl, rfl, -⟩ b hb
    rcases List.mem_cons.mp hb with e | hb
    · exact .inl e
    · rw [List.mem_singleton.mp hb]; exact .inr (by k_mem)
  · rintro Q9 E9 i vv oi m1 n1 h1 tk1 hRq hi ⟨k, xx, hki, hkv⟩ ⟨oe', oa', oS', vS', r, rfl, rfl, dS', hBe', hBa'⟩ F1 N1 ne1
    obtain ⟨t, rfl⟩ := isBytes_shape hkv
    have hDi : (D.map (·.1))[i]? = some k := by rw [← hkk, List.getElem?_map, hki]; rfl
    obtain ⟨x, hgx, hxo, hk6⟩ := val_at gD hDi
    have hnk := not_taken gD.2 hDi
    have htk := take_next hDi
    have hk64 := names6_len k hk6
    have hx64 := (okVals_len x hxo).2.1
    have hl6 : ((D.map (·.1)).take i).length ≤ 100 := by
      have := gD.len
      rw [List.length_take, List.length_map]; omega
    obtain ⟨hc1, hc2⟩ := val_cut x hxo
    clear F N up hQ ha hd1 hk hBe hBa dS ne1
    refine turnP fun P hP => ?_
    k_steps
    show wpAny _ _ (call (Value.ref 325) _) _ _ _
    rename Obj.data _ = Data.cell (some (Value.bytes _ _)) => dS9
    have hzE := endD_len2 D _ hl6
    have hzA := symD_len2 D _ hl6
    rename Fr _ _ _ _ => F7
    rename News _ _ _ _ => N7
    refine spec_lfollow X T (keep_base F7 base_self) (by omega) (by omega) hhd ⟨oh, (N7 (dh, oh) (by k_mem)).1, hBh, (N7 (dh, oh) (by k_mem)).2.2, loH⟩ gD.vals hk64 (fun T1 lx b tb vs1 psx cnt h6 tk6 hf hb kk eT eL nT nL => ?_) (fun T1 lx vs1 psx cnt h6 tk6 hf hb kk eT eL nT nL => ?_) (fun hf h6 tk6 kk => ?_)
    · have F8 := fr_keepAll F7 kk
      have N8 := news_more F7 (news_more F7 (news_keepAll N7 kk) eL nL) eT nT
      clear F7 N7 kk eT eL nT nL
      k_steps
      show wpAny _ _ (subscriptTail _ _ _ _) _ _ _
      rename News _ _ _ _ => N7
      refine item_tuple ⟨_, (N7 (T1, _) (.head _)).1, rfl, _, rfl⟩ (by decide) (by decide) (j := 1) (x := .bytes b.toArray tb) rfl rfl ?_
      k_steps
      show wpAny _ _ (subscriptTail _ _ _ _) _ _ _
      rename News _ _ _ _ => N7
      refine item_tuple ⟨_, (N7 (T1, _) (.head _)).1, rfl, _, rfl⟩ (by decide) (by decide) (j := 1) (x := .bytes b.toArray tb) rfl rfl ?_
      k_steps
      show wpAny _ _ (setItem _ _ _) _ _ _
      rename Fr _ _ _ _ => F7
      rename News _ _ _ _ => N7
      refine bset F7 (news_drop (news_drop N7)) (updE2 a2) hBe' hzE fun h7 oe7 F9 N9 hB9 => ?_
      rw [endD_yes hf hnk, ← htk] at hB9
      clear F7 N7 hBe'
      k_steps
      show wpAny _ _ (subscriptTail _ _ _ _) _ _ _
      rename News _ _ _ _ => N7
      refine bitem (o := oh) N7 (by k_mem) hBh hgx (fun tx => ?_)
      k_steps
      · rename (_ == _) = true => q9
        have hp9 : rp.isPrefixOf x = true := hc1.symm.trans q9
        show wpAny _ _ (subscriptTail _ _ _ _) _ _ _
        rename News _ _ _ _ => N7
        refine bitem (o := oh) N7 (by k_mem) hBh hgx (fun tx => ?_)
        k_steps
        show wpAny _ _ (setItem _ _ _) _ _ _
        rename Fr _ _ _ _ => F7
        rename News _ _ _ _ => N7
        refine bset F7 N7 (updA2 a2) hBa' hzA fun h8 oa8 F10 N10 hB10 => ?_
        rw [hc2 hp9, symD_yes hgx hp9 hnk, ← htk] at hB10
        clear F7 N7 hBa'
        k_steps
        exact hP _ ⟨_, _, _, _, rfl, F10, N10, neIt a2, ⟨_, _, _, _, _, funext (by intro y9; by_cases c0 : y9 = Str.ofString "chain"; (subst c0; with_unfolding_all rfl); simp only [if_neg c0]), rfl, dS9, hB9, hB10⟩⟩
      · rename (_ == _) = false => q9
        have hp9 : rp.isPrefixOf x = false := hc1.symm.trans q9
        rw [symD_no hgx hp9, ← htk] at hBa'
        rename Fr _ _ _ _ => F7
        rename News _ _ _ _ => N7
        exact hP _ ⟨_, _, _, _, rfl, F7, N7, neIt a2, ⟨_, _, _, _, _, funext (by intro y9; by_cases c0 : y9 = Str.ofString "chain"; (subst c0; with_unfolding_all rfl); simp only [if_neg c0]), rfl, dS9, hB9, hBa'⟩⟩
    · rw [endD_no hf, ← htk] at hBe'
      have F8 := fr_keepAll F7 kk
      have N8 := news_more F7 (news_more F7 (news_keepAll N7 kk) eL nL) eT nT
      clear F7 N7 kk eT eL nT nL
      k_steps
      show wpAny _ _ (subscriptTail _ _ _ _) _ _ _
      rename News _ _ _ _ => N7
      refine item_tuple ⟨_, (N7 (T1, _) (.head _)).1, rfl, _, rfl⟩ (by decide) (by decide) (j := 1) (x := .none) rfl rfl ?_
      k_steps
      show wpAny _ _ (subscriptTail _ _ _ _) _ _ _
      rename News _ _ _ _ => N7
      refine bitem (o := oh) N7 (by k_mem) hBh hgx (fun tx => ?_)
      k_steps
      · rename (_ == _) = true => q9
        have hp9 : rp.isPrefixOf x = true := hc1.symm.trans q9
        show wpAny _ _ (subscriptTail _ _ _ _) _ _ _
        rename News _ _ _ _ => N7
        refine bitem (o := oh) N7 (by k_mem) hBh hgx (fun tx => ?_)
        k_steps
        show wpAny _ _ (setItem _ _ _) _ _ _
        rename Fr _ _ _ _ => F7
        rename News _ _ _ _ => N7
        refine bset F7 (news_drop (news_drop N7)) (updA2 a2) hBa' hzA fun h8 oa8 F10 N10 hB10 => ?_
        rw [hc2 hp9, symD_yes hgx hp9 hnk, ← htk] at hB10
        clear F7 N7 hBa'
        k_steps
        exact hP _ ⟨_, _, _, _, rfl, F10, N10, neIt a2, ⟨_, _, _, _, _, funext (by intro y9; by_cases c0 : y9 = Str.ofString "chain"; (subst c0; with_unfolding_all rfl); simp only [if_neg c0]), rfl, dS9, hBe', hB10⟩⟩
      · rename (_ == _) = false => q9
        have hp9 : rp.isPrefixOf x = false := hc1.symm.trans q9
        rw [symD_no hgx hp9, ← htk] at hBa'
        rename Fr _ _ _ _ => F7
        rename News _ _ _ _ => N7
        exact hP _ ⟨_, _, _, _, rfl, F7, (news_drop (news_drop N7)), neIt a2, ⟨_, _, _, _, _, funext (by intro y9; by_cases c0 : y9 = Str.ofString "chain"; (subst c0; with_unfolding_all rfl); simp only [if_neg c0]), rfl, dS9, hBe', hBa'⟩⟩
    · rw [endD_loop hf, ← htk] at hBe'
      have F8 := fr_keepAll F7 kk
      have N8 := news_keepAll N7 kk
      clear F7 N7 kk
      k_steps
      show wpAny _ _ (subscriptTail _ _ _ _) _ _ _
      rename News _ _ _ _ => N7
      refine bitem (o := oh) N7 (by k_mem) hBh hgx (fun tx => ?_)
      k_steps
      · rename (_ == _) = true => q9
        have hp9 : rp.isPrefixOf x = true := hc1.symm.trans q9
        show wpAny _ _ (subscriptTail _ _ _ _) _ _ _
        rename News _ _ _ _ => N7
        refine bitem (o := oh) N7 (by k_mem) hBh hgx (fun tx => ?_)
        k_steps
        show wpAny _ _ (setItem _ _ _) _ _ _
        rename Fr _ _ _ _ => F7
        rename News _ _ _ _ => N7
        refine bset F7 N7 (updA2 a2) hBa' hzA fun h8 oa8 F10 N10 hB10 => ?_
        rw [hc2 hp9, symD_yes hgx hp9 hnk, ← htk] at hB10
        clear F7 N7 hBa'
        k_steps
        exact hP _ ⟨_, _, _, _, rfl, F10, N10, neIt a2, ⟨_, _, _, _, _, funext (by intro y9; by_cases c0 : y9 = Str.ofString "chain"; (subst c0; with_unfolding_all rfl); simp only [if_neg c0]), rfl, dS9, hBe', hB10⟩⟩
      · rename (_ == _) = false => q9
        have hp9 : rp.isPrefixOf x = false := hc1.symm.trans q9
        rw [symD_no hgx hp9, ← htk] at hBa'
        rename Fr _ _ _ _ => F7
        rename News _ _ _ _ => N7
        exact hP _ ⟨_, _, _, _, rfl, F7, N7, neIt a2, ⟨_, _, _, _, _, funext (by intro y9; by_cases c0 : y9 = Str.ofString "chain"; (subst c0; with_unfolding_all rfl); simp only [if_neg c0]), rfl, dS9, hBe', hBa'⟩⟩
  · rintro m' n' h' tk' ⟨oe', oa', oS', vS', r, rfl, rfl, dS', hBe', hBa'⟩ F1 N1
    have hlen : kvs.length = (D.map (·.1)).length := by rw [← hkk, List.length_map]
    rw [hlen, List.take_length] at hBe' hBa'
    exact hQ h' tk' oe' oa' oS' vS' r F1 N1 dS' hBe' hBa'
end
end
example : ∀ w A s Q E, TZ w A s Q E → TZ w A s Q E := by intro w A s Q E h; w_top off; first | (walk1; fail) | exact h
section
def gTL.siteTag : Unit := ()
open gTL
open LG
example : True := by
  k_with "gTL call ref" => (k_here; (try dsimp only [List.nil_append, List.cons_append, List.append_nil]); (with_reducible show wpAny _ _ (call (Value.ref 297) _) _ _ _); k_dflt (refine' spec_values ?sX ?sT ?sb ?sr ?su ?sh ?_; (case sb => exact keep_base (by k_asm) (by k_asm)); (case sX => k_asm); (case sT => k_asm); (case sr => k_room); (case su => k_units); (case sh => k_asm)); (all_goals first | ((with_reducible intro l' vs' c' h' tk' hb' kk' eL' nL'); (k_dflt (have N' := news_more (by k_asm) (news_keepAll (by k_asm) kk') eL' nL')); (k_dflt (have F' := fr_keepAll (by k_asm) kk')); clear nL' eL' kk'; (try k_sweep))))
  k_with "gTL call ref" => (k_here; (try dsimp only [List.nil_append, List.cons_append, List.append_nil]); (with_reducible show wpAny _ _ (call (Value.ref 290) _) _ _ _); k_dflt (refine' spec_names ?sX ?sT ?sb ?sr ?su ?sh ?_; (case sb => exact keep_base (by k_asm) (by k_asm)); (case sX => k_asm); (case sT => k_asm); (case sr => k_room); (case su => k_units); (case sh => k_asm)); (all_goals first | ((with_reducible intro l' vs' c' h' tk' hb' kk' eL' nL'); (k_dflt (have N' := news_more (by k_asm) (news_keepAll (by k_asm) kk') eL' nL')); (k_dflt (have F' := fr_keepAll (by k_asm) kk')); clear nL' eL' kk'; (try k_sweep))))
  k_with "gTL compareOp NotEq ref ref" => (refine iter_stopF ?_)
  k_with "gTL call builtin:sorted" => (refine iter_stopF ?_)
  k_with "gTL call builtin:dict.keys" => (k_here; k_dflt (refine' bkeys ?bF ?bN ?bp ?bB ?lo ?_; (case bF => k_asm); (case bN => k_asm); (case bp => k_mem); (case bB => k_asm); (case lo => k_asm); k_whole); intro h' v' F' N' l1; (try k_lt l1); (try k_sweep))
  trivial
theorem last14 {a1 a2 a3 a4 a5 a6 a7 a8 a9 a10 a11 a12 a13 a14 b : Prop} (h : a1 ∧ a2 ∧ a3 ∧ a4 ∧ a5 ∧ a6 ∧ a7 ∧ a8 ∧ a9 ∧ a10 ∧ a11 ∧ a12 ∧ a13 ∧ a14 ∧ b) : b := h.2.2.2.2.2.2.2.2.2.2.2.2.2.2
theorem allLt_mem {d : Nat} : ∀ {l : List (Addr × Obj)}, AllLt d l → ∀ p ∈ l, @LT.lt Nat _ p.1 d
  | [], _, _, h => nomatch h
  | _ :: _, h, p, hp => by
    rcases List.mem_cons.mp hp with rfl | hp
    · exact h.1
    · exact allLt_mem h.2 p hp
theorem fmap_keys {f : Bts → Option Bts} : ∀ (ks : List Bts), ((ks.filterMap fun k => (f k).map fun v => (k, v)).map (·.1)).Sublist ks
  | [] => List.Sublist.slnil
  | k :: r => by
    have ih := fmap_keys (f := f) r
    rw [List.filterMap_cons]
    cases f k with
    | none => exact ih.cons _
    | some v => exact ih.cons₂ _
theorem endD_perm {D : DD} {a b : List Bts} (h : a.Perm b) : (endD D a).Perm (endD D b) := h.filterMap _
theorem symD_perm {D : DD} {a b : List Bts} (h : a.Perm b) : (symD D a).Perm (symD D b) := h.filterMap _
theorem endD_nodup {D : DD} {ks : List Bts} (h : ks.Nodup) : ((endD D ks).map (·.1)).Nodup := h.sublist (fmap_keys ks)
theorem symD_nodup {D : DD} {ks : List Bts} (h : ks.Nodup) : ((symD D ks).map (·.1)).Nodup := h.sublist (fmap_keys ks)
theorem fr_script {g h : Heap} {L : Addr} {m : Str → Option Value} {a : Value} (F : Fr g L h m) (e : m (Str.ofString "script") = some a) : Fr g L h (fun y => if y = Str.ofString "script" then some a else m y) :=
  Fr.to F fun y => by
    by_cases c1 : y = Str.ofString "script"
    · rw [if_pos c1, c1, e]
    rw [if_neg c1]
theorem lo_big {I lD dp rr dx dh dg L de : Addr} {codes : List (Addr × Obj)} (ap : Apart I lD dp rr dx dh dg L codes) (h : @LT.lt Nat _ lD de) : (de == sysModules) = false := by
  obtain ⟨a1, a2, a3, a4, a5, a6, a7, a8, a9, a10, a11, -⟩ := ap
  have : de ≠ sysModules := by unfold sysModules; show @Ne Nat _ _; omega
  simpa using this
example : True := by
  k_with "gTL exec For Name Call cons nil" => (refine for_free (hE := by assumption) ?_)
  trivial
section
set_option maxHeartbeats 4000000 in
theorem tail_7 : ∃ body scope s7 s8 s9 s10, lawOf PySem.Challenge.pw_iy0008_01.main.body = some (body, scope) ∧ subS body 7 = some s7 ∧ subS body 8 = some s8 ∧ subS body 9 = some s9 ∧ subS body 10 = some s10 ∧ ∀ {p9 : Program} {lo9 : List Str} {w : World} {A : Around} {g h : Heap} {L fa lS lD dp rr dx dh dg : Addr} {ol op : Obj} {t1 t2 : Tok} {D : DD} {mg mb : Str → Option Value} {mean : ExcName → Option Value} {Q : Flow → Shared → Prop} {E : Value → Shared → Prop} {gs : Array GenState} {dr : Drawn} {tk : Nat} {os : OsState} {rest : List Stmt}, (hd.heap_1 w.params).In g → Top p9 lo9 mean mg mb g → CodeHd g 350 348 → CodeHd g 107 103 → A.frames = some [envOfC (Str.ofString "law") scope L fa (.ref 350)] → A.depth + 60 < recursionLimit → A.units + 600 < cLine → A.handled = none → PassesOwn (model PG w) A (envOfC (Str.ofString "law") scope L fa (.ref 350)) E → Good D → LawJ w g lD lS lD dp rr dx dh dg L ol ol op t1 t2 D h gs →
    (∀ h' dr' tk' ps' ps3' (m' : Str → Option Value), Fr g L h' (fun y => if y = Str.ofString "script" then some (Value.ref lS) else m' y) → News g L h' [(348, tabObj ps'), (103, tabObj ps3')] → wpAny (model PG w) A (execs rest (envOfC (Str.ofString "law") scope L fa (.ref 350))) Q E ⟨h', gs, dr', tk', os⟩) →
    wpAny (model PG w) A (execs (s7 :: s8 :: s9 :: s10 :: rest) (envOfC (Str.ofString "law") scope L fa (.ref 350))) Q E ⟨h, gs, dr, tk, os⟩ := by
  obtain ⟨sc9, b9, e9, H9⟩ := loop_ends
  have q9 := (e9 : some (_, _) = some (sc9, b9))
  cases q9
  refine ⟨_, _, _, _, _, _, by rfl, by rfl, by rfl, by rfl, by rfl, ?_⟩
  intro p9 lo9 w A g h L fa lS lD dp rr dx dh dg ol op t1 t2 D mg mb mean Q E gs dr tk os rest X T hc1 hc2 hA hroom hun hhd hPO gD hJ hQ
  obtain ⟨oh, og, oR, oO, oG, oF, oS, ps, ps3, codes, m, vS, vF, vG, vO, F, N, ap, ag, dS, dF, dG, dO, dR, hB, hBh, hco, ht3⟩ := hJ
  obtain ⟨env9, he9, hk9, hf9⟩ : ∃ env9, A.frames = some [env9] ∧ env9.scope.kind = .function ∧ env9.frame = some L := ⟨_, hA, rfl, rfl⟩
  have loH := lo_dh ap
  have loG := lo_dg ap
  have gL6 := gD.len
  have gL100 : D.length ≤ 16777216 := Nat.le_trans gD.len100 (by decide)
  have hcc := And.intro hc1 hc2
  clear hc1 hc2
  have hrefl : KeepAll g g := fun _ _ e => e
  show wpAny _ _ (execs (_ :: _) _) _ _ _
  k_steps
  show wpAny _ _ (pyIter (Value.ref _)) _ _ _
  rename Fr _ _ _ _ => F7
  rename News _ _ _ _ => N7
  refine H9 X T hroom hun hhd gD F7 N7 ap ?ol1 ?ol2 ?ol3 ?ol4 dS hBh (BObj.new ?n1) (BObj.new ?n2) ?post
  case n1 => assumption
  case n2 => assumption
  case ol1 => omega
  case ol2 => omega
  case ol3 => omega
  case ol4 =>
    exact allLt_mem (last14 (by with_reducible assumption))
  case post =>
    intro h8 tk8 oe8 oa8 oS8 vS8 r8 F8 N8 dS8 hBe hBa
    clear F7 N7
    k_steps
    show wpAny _ _ (call (Value.ref 138) _) _ _ _
    rename Fr _ _ _ _ => F7
    rename News _ _ _ _ => N7
    have hfs : FramesOk _ [env9] := frames_push (l := []) F7 trivial hk9 hf9
    have hbf : ∀ b ∈ frs [env9], g.get? b = none := base_frames F7 hf9 base_self (fun _ h => nomatch h)
    refine spec_asdict X T (keep_base F7 base_self) (by omega) (by omega) hhd (refs_at3 no_frs F7 N7 hf9 base_self (by k_mem) (by k_mem) (by k_mem) hB loG) gD.vals gD.len100 he9 hfs hbf gD.2 (fun k hm => names6_len k (good_keys gD hm)) (fun k hm => name_strip k (good_keys gD hm)) (fun d1 o1 h1 d2 tk1 ks1 kk e1 n1 b1 lo1 p1 => ?_)
    have F1 := fr_keepF F7 kk hf9
    have N1 := news_more F7 (news_keepF N7 kk hf9) e1 n1
    clear F7 N7 hfs hbf kk e1 n1
    k_steps
    show wpAny _ _ (compareOp _ _ _) _ _ _
    rename Fr _ _ _ _ => F7
    rename News _ _ _ _ => N7
    refine ne_dicts N7 (oa := o1) (ob := oe8) (by k_mem) (by k_mem) b1 hBe lo1 (by assumption) (endD_perm p1).length_eq (getB_perm (endD_perm p1) (endD_nodup gD.2)) (by omega) ?_
    k_steps
    show wpAny _ _ (call (Value.ref 201) _) _ _ _
    rename Fr _ _ _ _ => F7
    rename News _ _ _ _ => N7
    have hfs : FramesOk _ [env9] := frames_push (l := []) F7 trivial hk9 hf9
    have hbf : ∀ b ∈ frs [env9], g.get? b = none := base_frames F7 hf9 base_self (fun _ h => nomatch h)
    refine spec_symrefs X T (keep_base F7 base_self) (by omega) (by omega) hhd (refs_at3 no_frs F7 N7 hf9 base_self (by k_mem) (by k_mem) (by k_mem) hB loG) gD.vals gD.len100 he9 hfs hbf gD.2 (fun d1 o1 h1 d2 tk1 ks1 kk e1 n1 b1 lo1 p1 => ?_)
    have F1 := fr_keepF F7 kk hf9
    have N1 := news_more F7 (news_keepF N7 kk hf9) e1 n1
    clear F7 N7 hfs hbf kk e1 n1
    k_steps
    show wpAny _ _ (compareOp _ _ _) _ _ _
    rename Fr _ _ _ _ => F7
    rename News _ _ _ _ => N7
    refine ne_dicts N7 (oa := o1) (ob := oa8) (by k_mem) (by k_mem) b1 hBa lo1 (by assumption) (symD_perm p1).length_eq (getB_perm (symD_perm p1) (symD_nodup gD.2)) (by omega) ?_
    k_steps
    rename Fr _ _ _ _ => F7
    rename News _ _ _ _ => N7
    exact hQ _ _ _ ps ps3 _ (fr_script F7 (by with_unfolding_all rfl)) (fun p hp => N7 p (by
      rcases List.mem_cons.mp hp with rfl | hp
      · k_mem
      · rw [List.mem_singleton.mp hp]; k_mem))
end
end
example : ∀ w A s Q E, TZ w A s Q E → TZ w A s Q E := by intro w A s Q E h; w_top off; first | (walk1; fail) | exact h
section
set_option maxHeartbeats 4000000 in
theorem law_tail : ∃ body scope, lawOf PySem.Challenge.pw_iy0008_01.main.body = some (body, scope) ∧ ∀ {p9 : Program} {lo9 : List Str} {w : World} {A : Around} {g h : Heap} {L fa lS lD dp rr dx dh dg : Addr} {ol op : Obj} {t1 t2 : Tok} {D : DD} {vs : List Value} {xs : List Int} {mg mb : Str → Option Value} {mean : ExcName → Option Value} {Q : Flow → Shared → Prop} {E : Value → Shared → Prop} {gs : Array GenState} {dr : Drawn} {tk : Nat} {os : OsState}, (hd.heap_1 w.params).In g → Top p9 lo9 mean mg mb g → CodeHd g 350 348 → CodeHd g 107 103 → A.frames = some [envOfC (Str.ofString "law") scope L fa (.ref 350)] → A.depth + 60 < recursionLimit → A.units + 600 < cLine → A.handled = none → PassesOwn (model PG w) A (envOfC (Str.ofString "law") scope L fa (.ref 350)) E → g.IsList lS vs.toArray → IntsAre vs xs → xs.length ≤ 63 → Good D → LawJ w g lD lS lD dp rr dx dh dg L ol ol op t1 t2 D h gs →
    (∀ h' gs' dr' tk', KeepAll g h' → AllBare gs' → GrownAt 348 h' → GrownAt 103 h' → Q (.ret (.bool true)) ⟨h', gs', dr', tk', os⟩) → 
    wpAny (model PG w) A (execs (body.drop 4) (envOfC (Str.ofString "law") scope L fa (.ref 350))) Q E ⟨h, gs, dr, tk, os⟩ := by
  obtain ⟨b1, c1, s1_0, e1, f1_0, H1⟩ := tail_4
  have q1 := (e1 : some (_, _) = some (b1, c1))
  cases q1
  have r1_0 := (f1_0 : some _ = some s1_0)
  cases r1_0
  obtain ⟨b2, c2, s2_0, s2_1, e2, f2_0, f2_1, H2⟩ := tail_56
  have q2 := (e2 : some (_, _) = some (b2, c2))
  cases q2
  have r2_0 := (f2_0 : some _ = some s2_0)
  cases r2_0
  have r2_1 := (f2_1 : some _ = some s2_1)
  cases r2_1
  obtain ⟨b3, c3, s3_0, s3_1, s3_2, s3_3, e3, f3_0, f3_1, f3_2, f3_3, H3⟩ := tail_7
  have q3 := (e3 : some (_, _) = some (b3, c3))
  cases q3
  have r3_0 := (f3_0 : some _ = some s3_0)
  cases r3_0
  have r3_1 := (f3_1 : some _ = some s3_1)
  cases r3_1
  have r3_2 := (f3_2 : some _ = some s3_2)
  cases r3_2
  have r3_3 := (f3_3 : some _ = some s3_3)
  cases r3_3
  obtain ⟨b4, c4, e4, H4⟩ := tail_c
  have q4 := (e4 : some (_, _) = some (b4, c4))
  cases q4
  refine ⟨_, _, by rfl, ?_⟩
  intro p9 lo9 w A g h L fa lS lD dp rr dx dh dg ol op t1 t2 D vs xs mg mb mean Q E gs dr tk os X T hc1 hc2 hA hroom hun hhd hPO hl hI hlen gD hJ hQ
  have ag : AllBare gs := by
    obtain ⟨oh, og, oR, oO, oG, oF, oS, ps, ps3, codes, m, vS, vF, vG, vO, F, N, ap, ag, -⟩ := hJ
    exact ag
  show wpAny _ _ (execs (_ :: _) _) _ _ _
  refine H1 X T hc1 hc2 hA hroom hun hhd hPO gD hJ fun h1 dr1 tk1 hJ1 => ?_
  refine H2 X T hc1 hc2 hA hroom hun hhd hPO gD hJ1 fun h2 dr2 tk2 hJ2 => ?_
  refine H3 X T hc1 hc2 hA hroom hun hhd hPO gD hJ2 fun h3 dr3 tk3 ps' ps3' m' F3 N3 => ?_
  exact H4 X T hA hroom hun hhd hPO hl hI hlen F3 N3 ag fun h4 dr4 tk4 kk g1 g2 => hQ h4 gs dr4 tk4 kk ag g1 g2
end
example : ∀ w A s Q E, TZ w A s Q E → TZ w A s Q E := by intro w A s Q E h; w_top off; first | (walk1; fail) | exact h
section
theorem news_dup {g h : Heap} {L : Addr} {x : Addr × Obj} {r : List (Addr × Obj)} (N : News g L h (x :: r)) : News g L h (x :: x :: r) := fun p hp => by
  rcases List.mem_cons.mp hp with rfl | hp
  · exact N _ (.head _)
  · exact N _ hp
theorem ints_val {vs : List Value} {xs : List Int} (h : IntsAre vs xs) : ∀ v ∈ vs, ∃ n t, v = Value.int n t := ints_all h
def gXX.siteTag : Unit := ()
open gXX
open LG
example : True := by
  k_with "gXX call ref" => (k_here; (try dsimp only [List.nil_append, List.cons_append, List.append_nil]); (with_reducible show wpAny _ _ (call (Value.ref 290) _) _ _ _); k_dflt (refine' spec_names ?sX ?sT ?sb ?sr ?su ?sh ?_; (case sb => exact keep_base (by k_asm) (by k_asm)); (case sX => k_asm); (case sT => k_asm); (case sr => k_room); (case su => k_units); (case sh => k_asm)); (all_goals first | ((with_reducible intro l' vs' c' h' tk' hb' kk' eL' nL'); (k_dflt (have neL := allNe (by k_asm) (by k_asm) nL')); (simp only [AllNe, and_true] at neL); (k_dflt (have N' := news_more (by k_asm) (news_keepAll (by k_asm) kk') eL' nL')); (k_dflt (have F' := fr_keepAll (by k_asm) kk')); (try k_sweep))))
  k_with "gXX call ref" => (k_here; (try dsimp only [List.nil_append, List.cons_append, List.append_nil]); (with_reducible show wpAny _ _ (call (Value.ref 297) _) _ _ _); k_dflt (refine' spec_values ?sX ?sT ?sb ?sr ?su ?sh ?_; (case sb => exact keep_base (by k_asm) (by k_asm)); (case sX => k_asm); (case sT => k_asm); (case sr => k_room); (case su => k_units); (case sh => k_asm)); (all_goals first | ((with_reducible intro l' vs' c' h' tk' hb' kk' eL' nL'); (k_dflt (have neL := allNe (by k_asm) (by k_asm) nL')); (simp only [AllNe, and_true] at neL); (k_dflt (have N' := news_more (by k_asm) (news_keepAll (by k_asm) kk') eL' nL')); (k_dflt (have F' := fr_keepAll (by k_asm) kk')); (try k_sweep))))
  k_with "gXX call ref" => (k_here; (try dsimp only [List.nil_append, List.cons_append, List.append_nil]); (with_reducible show wpAny _ _ (call (Value.ref 304) _) _ _ _); k_dflt (refine' spec_olds ?sX ?sT ?sb ?sr ?su ?sh ?_; (case sb => exact keep_base (by k_asm) (by k_asm)); (case sX => k_asm); (case sT => k_asm); (case sr => k_room); (case su => k_units); (case sh => k_asm)); (all_goals first | ((with_reducible intro l' vs' c' h' tk' hb' kk' eL' nL'); (k_dflt (have neL := allNe (by k_asm) (by k_asm) nL')); (simp only [AllNe, and_true] at neL); (k_dflt (have N' := news_more (by k_asm) (news_keepAll (by k_asm) kk') eL' nL')); (k_dflt (have F' := fr_keepAll (by k_asm) kk')); (try k_sweep))))
  k_with "gXX k_all" => (exact above_ne (by k_asm) (by (try dsimp only); omega))
  k_with "gXX subscriptTail" => (k_here; (with_reducible show wpAny _ _ (subscriptTail _ _ (Value.ref _) (Value.int _ _)) _ _ _); (refine' item_Bm (News.isList (by k_asm) (by k_mem)) (by k_asm) ?i0 ?i1 ?iz ?_; (case i0 => exact fm_nn (by decide)); (case i1 => exact Int.lt_of_lt_of_le (fm_lt (by decide)) (by decide)); (case iz => decide)); intro p' t' hp')
  k_with "gXX subscriptTail" => (k_here; (with_reducible show wpAny _ _ (subscriptTail _ _ (Value.ref _) (Value.int _ _)) _ _ _); (refine' item_Om (News.isList (by k_asm) (by k_mem)) (by k_asm) ?i0 ?i1 ?iz ?_; (case i0 => exact fm_nn (by decide)); (case i1 => exact Int.lt_of_lt_of_le (fm_lt (by decide)) (by decide)); (case iz => decide)); intro o' v' ho' hr')
  trivial
set_option maxHeartbeats 8000000 in
theorem go : PySem.Challenge.rw_iy0008_01.Holds := hd.2 said0 (by
  k_fill
  intro w s₀ s₁ mg mb G Y fa o pm cd doc dV kV ho hd hcd hD hmg hg args vals as hpre hlay hrd hwl hlo
  have KX := km_in_of Y
  km_tabs Y
  have X := (Ground.X G).1
  have V := (Ground.X G).2
  refine Ground.open G ?_
  intro T B D TE TW
  try (refine guard_noD D (by decide +kernel) ?_; clear D)
  km_lay T hmg ho hd cd
  have hT9 : TabsAt [(350, 348), (107, 103)] s₁.heap := tabs_two hT9 (tab_of (x := Str.ofString "_collapse_slashes") (c := 107) (P := 103) T KX rfl (by kernel_rfl))
  have gg9 : AllBare s₁.gens := .of_eq hg
  clear hmg
  wrow_args hpre hlay hrd hwl hlo
  all_goals (
    first | refine callC_kw (enter_call ?_) | refine enter_call ?_
    w_top on
    refine post_true hT9 (fun _ => rfl) (by first | (with_unfolding_all rfl) | kernel_rfl | simp) ?_
    w_call any ho hd hcd hD T F
    clear hd
    kn_ghosts F T
    k_drop
    skip)
  (all_goals try k_fold)
  k_steps
  (show wpAny _ _ (pyIter _) _ _ _)
  (with_reducible rename Fr _ _ _ _ => F9)
  (with_reducible rename News _ _ _ _ => N9)
  (with_reducible rename Frag.In _ _ => X9)
  (rename IntsAre _ _ => I9)
  (clear hcd hD)
  (obtain ⟨sc, bd, e0, H0⟩ := law_loop)
  (have q0 := (e0 : some (_, _) = some (sc, bd)))
  (cases q0)
  (obtain ⟨m9, F10⟩ := fr_names F9 (by with_unfolding_all rfl) (by with_unfolding_all rfl) (by with_unfolding_all rfl))
  (clear F9)
  (with_reducible rename Top _ _ _ _ _ _ => T9)
  (refine' H0 (D := []) X9 T9 ?hc1 ?hc2 rfl ?hr ?hu rfl (ints_val I9) Good.nil ⟨_, _, _, _, _, _, _, #[], #[], [], m9, _, _, _, _, F10, news_dup N9, ?ap, gg9, ?s1, ?s2, ?s3, ?s4, ?s5, BObj.new ?b1, BObj.new ?b2, CodesOk.nil, trivial⟩ ?post)
  (case hc1 => assumption)
  (case hc2 => assumption)
  (case s1 => assumption)
  (case s2 => assumption)
  (case s3 => assumption)
  (case s4 => assumption)
  (case s5 => assumption)
  (case b1 => assumption)
  (case b2 => assumption)
  (case hr => (rw [depth_deeper]; decide))
  (case hu => (rw [units_deeper]; decide))
  (case ap => (refine ⟨?_, ?_, ?_, ?_, ?_, ?_, ?_, ?_, ?_, ?_, Nat.le_refl _, fun _ h => nomatch h⟩ <;> (try show @LT.lt Nat _ _ _) <;> (try show @Ne Nat _ _) <;> omega))
  (case post =>
    intro D' h' gs' dr' tk' gD hJ
    obtain ⟨b2, sc2, e2, H2⟩ := law_tail
    have q2 := (e2 : some (_, _) = some (b2, sc2))
    cases q2
    show wpAny _ _ (execs _ _) _ _ _
    refine' H2 X9 T9 ?hc1 ?hc2 rfl ?hr ?hu rfl ?po ?l1 ?l2 ?l3 gD hJ ?_
    case hc1 => assumption
    case hc2 => assumption
    case hr => (rw [depth_deeper]; decide)
    case hu => (rw [units_deeper]; decide)
    case po => passes_own
    case l1 => assumption
    case l2 => assumption
    case l3 => omega
    intro h3 gs3 dr3 tk3 kk ag g1 g2
    exact ⟨rfl, kk, rfl, ag, g1, g2, trivial⟩))
end
end Mine
set_option maxHeartbeats 4000000 in
theorem PySem.Challenge.cw_iy0008_01_holds : PySem.Challenge.rw_iy0008_01.Holds := by
  exact Mine.go
