/-
  THE WALK of ZZreported.
-/
import Derived.Test.Qxb6618727aDoorRd
namespace Go.Proofs.Qxb6618727aDoor
open Go.RowKit
set_option linter.unusedSimpArgs false

theorem i55 : (Tryd.prog.info? 55).map (·.size) = some 16 := by kernel_rfl
set_option maxRecDepth 100000 in
set_option maxHeartbeats 4000000 in
theorem zzrep_any (i : Ins) (r : Rep) (a : Option Addr) (len cap : Nat) (w : World) (ht : Tab w) (he : IsEs w w.heap.size a len) (hx : U30 i.xw) (hf : U30 i.fw) (hr : U30 r.gw) :
    Calls Tryd.prog 9 #[.agg i.arr, .agg r.arr, .slice a len cap] w (RdPost i r len w) := by
  go_enter Tryd.func9, Tryd.ntmps9
  go_upto_region 1 with fail
  have hRs : Rs i r w _ := Rs.start #[.string ⟨#[]⟩, .string ⟨#[]⟩, .slice none 0 0, .int .i64 0, .int .u64 0, .string ⟨#[]⟩, .string ⟨#[]⟩, .int .i64 0, .int .i64 0, .int .i64 0, .string ⟨#[]⟩, .bool false, .int .u64 0, .int .i64 0, .pointer none, .string ⟨#[]⟩, .int .u64 0, .int .u64 0, .int .i64 0, .pointer none, .int .u64 0, .int .i64 0, .pointer none] rfl
  generalize World.alloc _ _ = w3 at hRs ⊢
  have hcall := hidden (reported_any i r a len cap w3 (ht.below hRs.2.2.2) ((he.below hRs.2.2.2).up hRs.2.2.2.size) hx hf hr)
  go_wp2_with (first
    | (refine wpList_load_row rfl 48 (.tmp 3) rfl w.heap.size rfl 48 i.arr (0, 0) _ hRs.1 Tryd.underlying48 rfl i48 ?_)
    | (refine wpList_load_row rfl 55 (.tmp 4) rfl (w.heap.size + 1) rfl 55 r.arr (0, 0) _ hRs.2.1 Tryd.underlying55 rfl i55 ?_)
    | (go_at_call 18; refine hcall.out.mono ?_; rintro e w' ⟨j, ev, n, c, rfl, h1, h2, h3, h4, hB⟩; replace hRs := hRs.step hB; obtain ⟨_, _, ⟨Z, hZ, hold⟩, hbel⟩ := hRs)
    | (refine wpList_store_row rfl 48 (.tmp 6) (.tmp 12) rfl (w.heap.size + 2) (j.rep r).arr rfl rfl 48 Z hold i48 hZ (ins_one _) ?_)
    | fail)
  have hrow := setRow_heap w' (w.heap.size + 2) Z (j.rep r).arr 48 _ hold
  refine bodyPost_ret (v := .tuple #[.agg (j.rep r).arr, .slice ev n c]) ?_ rfl ⟨j, ev, n, c, rfl, h1, h2, h3, h4, below_setRow hbel _ (by omega) _⟩
  exact results_two rfl _ _ (w.heap.size + 2) 48 (j.rep r).arr (0, 0) _ _ rfl rfl hrow Tryd.underlying48 rfl i48
end Go.Proofs.Qxb6618727aDoor
